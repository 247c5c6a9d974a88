import JvmDerived
import JvmDerived.Pilot.@@N@@Statement
import JvmDerived.Pilot.@@N@@Code
set_option linter.unusedVariables false
set_option linter.unusedSimpArgs false
set_option maxRecDepth 65536
set_option maxHeartbeats 40000000
namespace Jvm.RoadKit
open Sem ClassFile Op Lib Jvm.Stand Jvm.Free Jvm.LawKit
section New
variable {p : Program} {l : Launch} {e : Env} {R : Room} {s : State} {m : MethodId} {args : Array Value} {below : List Frame} {meth : Method} {c : Code} {T : State} {locs : List Loc} {cells slots : Nat}
theorem retI (X : Stand p l e R s m args below meth c T locs cells slots) (hx : p.tables.exec = Jvm.exec) {pc : Nat} {Ls : Array Slot} {z : Int32} {rest : List Value} (hret : meth.sig.returnType = some .int) (hd : decode c.code pc = .ok (.ireturn, 1)) {fs : List Frame}
    (hl : ∀ (f : JFrame) (acts : List Action), f.method = m → f.locked = none → f.entered = [] → (doReturn e (T.setTop f) acts (some (.int z))).1 = T.setFrames fs) : Steps p.tables e below (T.setTop (mkF m pc Ls (.int z :: rest))) (T.setFrames fs) := by
  have hm' : T.vm.method? m = some meth := X.method'
  have hn : narrow .int (.int z) = .int z := rfl
  show Steps _ _ _ (T.setTop { method := m, pc := pc, locals := Ls, stack := _ :: rest, locked := none }) _
  jvm_step X.here [X.here.top, hx, hd, hm', hret, hn]
  first | (intro acts; rw [hl _ acts rfl rfl rfl]) | rw [hl _ _ rfl rfl rfl]
  exact Steps.refl _
theorem retJ (X : Stand p l e R s m args below meth c T locs cells slots) (hx : p.tables.exec = Jvm.exec) {pc : Nat} {Ls : Array Slot} {z : Int64} {rest : List Value} (hret : meth.sig.returnType = some .long) (hd : decode c.code pc = .ok (.lreturn, 1)) {fs : List Frame}
    (hl : ∀ (f : JFrame) (acts : List Action), f.method = m → f.locked = none → f.entered = [] → (doReturn e (T.setTop f) acts (some (.long z))).1 = T.setFrames fs) : Steps p.tables e below (T.setTop (mkF m pc Ls (.long z :: rest))) (T.setFrames fs) := by
  have hm' : T.vm.method? m = some meth := X.method'
  have hn : narrow .long (.long z) = .long z := rfl
  show Steps _ _ _ (T.setTop { method := m, pc := pc, locals := Ls, stack := _ :: rest, locked := none }) _
  jvm_step X.here [X.here.top, hx, hd, hm', hret, hn]
  first | (intro acts; rw [hl _ acts rfl rfl rfl]) | rw [hl _ _ rfl rfl rfl]
  exact Steps.refl _
end New
end Jvm.RoadKit
namespace Jvm.Pilot.@@N@@
open Jvm Jvm.ClassFile Sem Op Lib Jvm.Free Jvm.Stand Jvm.LawKit Jvm.RoadKit Bundle Jvm.Pilot.@@N@@.Jvm.D
abbrev own_y0 : MethodName := (⟨"java/lang/String", "valueOf", "(C)Ljava/lang/String;"⟩ : MethodName)
abbrev own_y1 : MethodName := (⟨"java/lang/Long", "valueOf", "(J)Ljava/lang/Long;"⟩ : MethodName)
abbrev own_y2 : MethodName := (⟨"com/example/arcrover/arcrover/Exploration", "transitions", "()I"⟩ : MethodName)
abbrev own_y3 : MethodName := (⟨"java/util/ArrayList", "<init>", "()V"⟩ : MethodName)
abbrev own_y4 : MethodName := (⟨"java/util/ArrayList", "add", "(Ljava/lang/Object;)Z"⟩ : MethodName)
abbrev own_y5 : MethodName := (⟨"java/util/List", "copyOf", "(Ljava/util/Collection;)Ljava/util/List;"⟩ : MethodName)
abbrev own_y6 : MethodName := (⟨"java/util/ImmutableCollections", "listCopy", "(Ljava/util/Collection;)Ljava/util/List;"⟩ : MethodName)
abbrev own_y7 : MethodName := (⟨"com/example/arcrover/arcrover/StateMachine", "<init>", "(Ljava/lang/String;Ljava/util/List;Ljava/util/Map;)V"⟩ : MethodName)
abbrev own_y8 : MethodName := (⟨"com/example/arcrover/arcrover/StateMachine", "<init>", "(Ljava/lang/String;Ljava/util/List;)V"⟩ : MethodName)
abbrev own_y9 : MethodName := (⟨"java/util/Objects", "requireNonNull", "(Ljava/lang/Object;Ljava/lang/String;)Ljava/lang/Object;"⟩ : MethodName)
abbrev own_y10 : MethodName := (⟨"com/example/arcrover/arcrover/StateMachine", "transitions", "()Ljava/util/List;"⟩ : MethodName)
abbrev own_y11 : MethodName := (⟨"java/util/List", "add", "(Ljava/lang/Object;)Z"⟩ : MethodName)
abbrev own_y12 : MethodName := (⟨"java/util/Arrays", "copyOf", "([Ljava/lang/Object;ILjava/lang/Class;)[Ljava/lang/Object;"⟩ : MethodName)
abbrev own_y13 : MethodName := (⟨"java/util/Arrays", "copyOf", "([Ljava/lang/Object;I)[Ljava/lang/Object;"⟩ : MethodName)
abbrev own_y14 : MethodName := (⟨"java/util/ArrayList", "toArray", "()[Ljava/lang/Object;"⟩ : MethodName)
abbrev own_y15 : MethodName := (⟨"java/util/List", "of", "([Ljava/lang/Object;)Ljava/util/List;"⟩ : MethodName)
abbrev own_y16 : MethodName := (⟨"java/lang/Record", "<init>", "()V"⟩ : MethodName)
abbrev own_y17 : MethodName := (⟨"java/util/Objects", "requireNonNull", "(Ljava/lang/Object;)Ljava/lang/Object;"⟩ : MethodName)
abbrev own_y18 : MethodName := (⟨"java/util/ArrayList", "isEmpty", "()Z"⟩ : MethodName)
abbrev own_y19 : MethodName := (⟨"com/example/arcrover/arcrover/Transition", "<init>", "(Ljava/lang/String;Ljava/lang/String;Ljava/lang/String;Ljava/lang/String;)V"⟩ : MethodName)
abbrev own_y20 : MethodName := (⟨"java/util/ArrayList", "add", "(Ljava/lang/Object;[Ljava/lang/Object;I)V"⟩ : MethodName)
abbrev own_y21 : MethodName := (⟨"java/util/Map", "of", "()Ljava/util/Map;"⟩ : MethodName)
abbrev own_y22 : MethodName := (⟨"java/util/Map", "copyOf", "(Ljava/util/Map;)Ljava/util/Map;"⟩ : MethodName)
abbrev own_y23 : MethodName := (⟨"java/util/ImmutableCollections$MapN", "isEmpty", "()Z"⟩ : MethodName)
abbrev own_y24 : MethodName := (⟨"java/util/ImmutableCollections$List12", "size", "()I"⟩ : MethodName)
abbrev own_y25 : MethodName := (⟨"java/lang/Object", "getClass", "()Ljava/lang/Class;"⟩ : MethodName)
abbrev own_y26 : MethodName := (⟨"com/example/arcrover/arcrover/Exploration", "<init>", "(Lcom/example/arcrover/arcrover/StateMachine;IIJJLjava/util/List;Lcom/example/arcrover/arcrover/Verdict;Lcom/example/arcrover/arcrover/Witness;Ljava/util/List;)V"⟩ : MethodName)
abbrev own_y27 : MethodName := (⟨"java/util/ImmutableCollections$AbstractImmutableList", "<init>", "()V"⟩ : MethodName)
abbrev own_y28 : MethodName := (⟨"java/lang/Math", "min", "(II)I"⟩ : MethodName)
abbrev own_y29 : MethodName := (⟨"java/util/AbstractCollection", "<init>", "()V"⟩ : MethodName)
abbrev own_y30 : MethodName := (⟨"java/lang/Long", "<init>", "(J)V"⟩ : MethodName)
abbrev own_y31 : MethodName := (⟨"java/util/ImmutableCollections$ListN", "size", "()I"⟩ : MethodName)
abbrev own_y32 : MethodName := (⟨"java/util/Collection", "isEmpty", "()Z"⟩ : MethodName)
abbrev own_y33 : MethodName := (⟨"java/util/Map", "isEmpty", "()Z"⟩ : MethodName)
abbrev own_y34 : MethodName := (⟨"java/util/List", "size", "()I"⟩ : MethodName)
abbrev own_y35 : MethodName := (⟨"java/lang/StringLatin1", "canEncode", "(C)Z"⟩ : MethodName)
abbrev own_y36 : MethodName := (⟨"java/lang/StringLatin1", "toBytes", "(C)[B"⟩ : MethodName)
abbrev own_y37 : MethodName := (⟨"java/lang/String", "<init>", "([BB)V"⟩ : MethodName)
abbrev own_y38 : MethodName := (⟨"java/util/AbstractList", "<init>", "()V"⟩ : MethodName)
abbrev own_y39 : MethodName := (⟨"java/lang/Math", "max", "(II)I"⟩ : MethodName)
abbrev own_y40 : MethodName := (⟨"java/util/ArrayList", "grow", "(I)[Ljava/lang/Object;"⟩ : MethodName)
abbrev own_y41 : MethodName := (⟨"java/util/ArrayList", "grow", "()[Ljava/lang/Object;"⟩ : MethodName)
abbrev own_y42 : MethodName := (⟨"java/lang/Number", "<init>", "()V"⟩ : MethodName)
abbrev own_y43 : MethodName := (⟨"java/util/List", "of", "()Ljava/util/List;"⟩ : MethodName)
abbrev own_y44 : MethodName := (⟨"java/util/ImmutableCollections$AbstractImmutableCollection", "<init>", "()V"⟩ : MethodName)
abbrev own_y45 : MethodName := (⟨"java/util/ImmutableCollections$List12", "<init>", "(Ljava/lang/Object;)V"⟩ : MethodName)
abbrev own_y46 : MethodName := (⟨"java/util/ImmutableCollections$List12", "<init>", "(Ljava/lang/Object;Ljava/lang/Object;)V"⟩ : MethodName)
abbrev own_y47 : MethodName := (⟨"java/util/ImmutableCollections$ListN", "<init>", "([Ljava/lang/Object;Z)V"⟩ : MethodName)
abbrev own_y48 : MethodName := (⟨"java/util/ImmutableCollections", "listFromArray", "([Ljava/lang/Object;)Ljava/util/List;"⟩ : MethodName)
abbrev own_y49 : MethodName := (⟨"java/util/Collection", "toArray", "()[Ljava/lang/Object;"⟩ : MethodName)
abbrev own_r0 : Room := ({ frames := 0, cells := 0, slots := 0, locals := 0 } : Room)
abbrev own_r1 : Room := ({ frames := 3, cells := 1, slots := 1, locals := 40 } : Room)
abbrev own_r2 : Room := ({ frames := 1, cells := 0, slots := 0, locals := 12 } : Room)
abbrev own_r3 : Room := ({ frames := 1, cells := 0, slots := 0, locals := 16 } : Room)
abbrev own_r4 : Room := ({ frames := 2, cells := 0, slots := 0, locals := 24 } : Room)
abbrev own_r5 : Room := ({ frames := 4, cells := 0, slots := 0, locals := 48 } : Room)
abbrev own_r6 : Room := ({ frames := 3, cells := 0, slots := 0, locals := 36 } : Room)
abbrev own_r7 : Room := ({ frames := 5, cells := 1, slots := 2, locals := 70 } : Room)
abbrev own_r8 : Room := ({ frames := 0, cells := 1, slots := 1, locals := 0 } : Room)
abbrev own_r9 : Room := ({ frames := 2, cells := 2, slots := 5, locals := 40 } : Room)
abbrev own_r10 : Room := ({ frames := 1, cells := 1, slots := 10, locals := 16 } : Room)
abbrev own_r11 : Room := ({ frames := 2, cells := 1, slots := 10, locals := 31 } : Room)
abbrev own_r12 : Room := ({ frames := 3, cells := 1, slots := 10, locals := 43 } : Room)
abbrev own_r13 : Room := ({ frames := 4, cells := 1, slots := 10, locals := 58 } : Room)
abbrev own_r14 : Room := ({ frames := 1, cells := 0, slots := 0, locals := 15 } : Room)
abbrev own_r15 : Room := ({ frames := 1, cells := 1, slots := 1, locals := 60 } : Room)
abbrev own_r16 : Room := ({ frames := 2, cells := 1, slots := 1, locals := 90 } : Room)
abbrev own_r17 : Room := ({ frames := 3, cells := 1, slots := 1, locals := 110 } : Room)
abbrev own_r18 : Room := ({ frames := 1, cells := 1, slots := 2, locals := 60 } : Room)
abbrev own_r19 : Room := ({ frames := 2, cells := 1, slots := 2, locals := 90 } : Room)
abbrev own_r20 : Room := ({ frames := 3, cells := 1, slots := 2, locals := 110 } : Room)
abbrev own_r21 : Room := ({ frames := 1, cells := 1, slots := 3, locals := 60 } : Room)
abbrev own_r22 : Room := ({ frames := 2, cells := 1, slots := 3, locals := 90 } : Room)
abbrev own_r23 : Room := ({ frames := 3, cells := 1, slots := 3, locals := 110 } : Room)
abbrev own_r24 : Room := ({ frames := 5, cells := 2, slots := 5, locals := 70 } : Room)
abbrev own_r25 : Room := ({ frames := 6, cells := 2, slots := 5, locals := 90 } : Room)
abbrev own_r26 : Room := ({ frames := 7, cells := 0, slots := 0, locals := 125 } : Room)
abbrev own_r27 : Room := ({ frames := 8, cells := 0, slots := 0, locals := 140 } : Room)
abbrev own_r28 : Room := ({ frames := 7, cells := 2, slots := 3, locals := 125 } : Room)
abbrev own_r29 : Room := ({ frames := 8, cells := 2, slots := 3, locals := 140 } : Room)
abbrev own_r30 : Room := ({ frames := 7, cells := 2, slots := 4, locals := 125 } : Room)
abbrev own_r31 : Room := ({ frames := 8, cells := 2, slots := 4, locals := 140 } : Room)
abbrev own_r32 : Room := ({ frames := 7, cells := 3, slots := 8, locals := 125 } : Room)
abbrev own_r33 : Room := ({ frames := 8, cells := 3, slots := 8, locals := 140 } : Room)
abbrev own_r34 : Room := ({ frames := 2, cells := 8, slots := 128, locals := 40 } : Room)
abbrev own_r35 : Room := ({ frames := 9, cells := 2, slots := 32, locals := 170 } : Room)
abbrev own_r36 : Room := ({ frames := 9, cells := 4, slots := 35, locals := 170 } : Room)
abbrev own_r37 : Room := ({ frames := 9, cells := 4, slots := 36, locals := 170 } : Room)
abbrev own_r38 : Room := ({ frames := 9, cells := 5, slots := 40, locals := 170 } : Room)
abbrev own_r39 : Room := ({ frames := 10, cells := 2, slots := 32, locals := 190 } : Room)
abbrev own_r40 : Room := ({ frames := 10, cells := 4, slots := 35, locals := 190 } : Room)
abbrev own_r41 : Room := ({ frames := 10, cells := 4, slots := 36, locals := 190 } : Room)
abbrev own_r42 : Room := ({ frames := 10, cells := 5, slots := 40, locals := 190 } : Room)
abbrev own_r43 : Room := ({ frames := 9, cells := 2, slots := 3, locals := 170 } : Room)
abbrev own_P (p1 p2 p3 p4 : Int32) (q5 q6 : Int64) (a b c d e f g h i : Slot) : Array Slot := #[.val (.int p1), .val (.int p2), .val (.int p3), .val (.int p4), .val (.long q5), .second, .val (.long q6), .second, a, b, c, d, e, f, g, h, i]
theorem own_w {Z : State} {a0 : Array Value} (hw : ∀ d ∈ tables_1, d.before a0 Z = true) (i : Nat) {d : Cond} (h : tables_1[i]? = some d) : d.before a0 Z = true := hw _ (List.mem_of_getElem? h)
theorem own_int {args : Array Value} {first s : State} {o : Option Outcome} {idx : List Nat} {t : Term} {k : Int32} (h : (Cond.eq t (Term.int k)).value args first o s idx = some true) : t.eval args first o idx s = some (.int k) := by
  obtain ⟨x, y, e1, e2, -, k2⟩ := cmp_v (Or.inl h)
  cases (Term.int_eval k).symm.trans e2
  obtain ⟨z, rfl⟩ := k2
  rw [e1, gotT (Cond.eq_ints e1 e2) h]
theorem own_ne {args : Array Value} {s : State} {C n d : String} {t u : Term} {x y : Addr} {i j : Int32} (et : t.eval args s none [] s = some (.ref x)) (eu : u.eval args s none [] s = some (.ref y)) (ht : (Cond.eq (Term.field t C n d) (Term.int i)).value args s none s [] = some true) (hu : (Cond.eq (Term.field u C n d) (Term.int j)).value args s none s [] = some true) (hij : i ≠ j) : ¬ (x = y) := fun q => by
  have f1 := own_int ht
  have f2 := own_int hu
  rw [fld_at et] at f1
  rw [fld_at eu, ← q, f1] at f2
  exact hij (Value.int.inj (Option.some.inj f2))
theorem own_ext {h0 h : Heap} (K : Keep h0 h []) : Ext h0 h := ⟨K.1, fun a c q => K.2.1 a c q nin0⟩
theorem own_keep {h0 h : Heap} (E : Ext h0 h) (ws : List Addr) : Keep h0 h ws := (Keep.refl h0 ws).ext E
theorem d2_0 : decode jdk_43_method_3_code 0 = .ok (.iload_n 0, 1) := by decide +kernel
theorem d2_1 : decode jdk_43_method_3_code 1 = .ok (.sipush 255, 3) := by decide +kernel
theorem d2_4 : decode jdk_43_method_3_code 4 = .ok (.if_icmp .gt 7, 3) := by decide +kernel
theorem d2_7 : decode jdk_43_method_3_code 7 = .ok (.iconst 1, 1) := by decide +kernel
theorem d2_8 : decode jdk_43_method_3_code 8 = .ok (.goto 4, 3) := by decide +kernel
theorem d2_12 : decode jdk_43_method_3_code 12 = .ok (.ireturn, 1) := by decide +kernel
theorem pn_2 : plainName "java/lang/StringLatin1" = true := by first | (simp [plainName, overriddenIn]; done) | decide +kernel
theorem ef_2 (m : MethodId) (x0 : Int32) : entryFrame m #[(.int x0)] 1 = mkF m 0 #[.val (.int x0)] [] := by first | (simp [entryFrame, mkF, argsToLocals, Value.category]; done) | rfl
def Q_can (Z : State) (p1 : Int32) (h0 : Heap) (n0 : Nat) (v : Option Value) (h : Heap) (L : List Loc) : Prop := v = some (.int (1 : Int32)) ∧ Fr n0 L ∧ h = h0
theorem rm_can (l : Launch) (Z : State) (a0 : Array Value) (hw : ∀ d ∈ tables_1, d.before a0 Z = true) (ws : List Jvm.Cond) (p1 : Int32) (h0 : Heap) (n0 : Nat) (Z0 : n0 ≤ h0.size) (hc4 : ¬ ((255 : Int32) < p1)) :
    MetFree l own_y35 (head1 (Jvm.Cond.code own_y35 jdk_43_method_3_code 1 (some .boolean) :: ws) own_r0) (fun a U => a = #[(.int p1)] ∧ Z.Warmed39 U.vm ∧ U.heap = h0) (fun _ _ _ _ _ => True) (fun _ U o U' => ∃ v L, o = .returned v ∧ Q_can Z p1 h0 n0 v U'.heap L ∧ FrameEnd U o U' L own_r0.cells own_r0.slots) := by
  refine MetFree.of_bodySF (plainFor_of_name pn_2) hisR ?_
  intro p e s m args below meth c s₁ Bd hml0 hP hK
  obtain ⟨rfl, hZ, hh⟩ := hP
  have hx := Bd.exec
  have hby := Bd.bytes
  have hml : c.maxLocals = 1 := hml0
  have hown : s.vm.findClass "java/lang/StringLatin1" = some m.cls := findClass_of_methodNamed Bd.named
  have hnm := (name_of_methodNamed Bd.named Bd.method).1
  have X0 : Stand p l e own_r0 s m #[(.int p1)] below meth c s₁ [] 0 0 := Stand.of_body Bd
  have e0 : s₁.heap = h0 := by rw [← hh, Bd.state]; rfl
  have N0 := Fr.nil n0
  have pre0 : ∀ t, Steps p.tables e below (s₁.setTop (mkF m 0 #[.val (.int p1)] [])) t → Steps p.tables e below (s₁.setTop (entryFrame m #[(.int p1)] 1)) t := fun t k => castTop (ef_2 m p1) k
  obtain ⟨fs, hr, hrun, hended, hW, hsame⟩ := X0.leave (v := some (.int (1 : Int32))) (fun h => by rw [Bd.returns] at h; cases h)
  refine ⟨_, _, pre0 _ ?_, hrun, hended, _, _, rfl, ?_, ⟨_, rfl⟩, hW, hsame.mono (by decide) (by decide)⟩
  · show Steps _ _ _ (s₁.setTop (mkF m 0 #[.val (.int p1)] [])) _
    refine XS.iloadN X0.here hx rfl (hb hby d2_0) rfl ?_
    refine XS.sipush X0.here hx rfl (hb hby d2_1) ?_
    refine XS.icmpNo X0.here hx rfl (hb hby d2_4) rfl (flt hc4).2.2.1 ?_
    refine XS.iconst X0.here hx rfl (hb hby d2_7) ?_
    show Steps _ _ _ (s₁.setTop (mkF m 8 #[.val (.int p1)] [(.int (1 : Int32))])) _
    refine XS.goto X0.here hx rfl (pc0 := 8) (pc' := 12) rfl (hb hby d2_8) (by decide) (by decide) ?_
    show Steps _ _ _ (s₁.setTop (mkF m 12 #[.val (.int p1)] [(.int (1 : Int32))])) _
    exact retN X0 hx (t := .boolean) Bd.returns (by simp) (hb hby d2_12) hr
  · show Q_can Z p1 h0 n0 _ s₁.heap _
    rw [e0]
    exact ⟨rfl, N0, rfl⟩
theorem d3_0 : decode jdk_43_method_46_code 0 = .ok (.iconst 1, 1) := by decide +kernel
theorem d3_1 : decode jdk_43_method_46_code 1 = .ok (.newarray .byte, 2) := by decide +kernel
theorem d3_3 : decode jdk_43_method_46_code 3 = .ok (.dup, 1) := by decide +kernel
theorem d3_4 : decode jdk_43_method_46_code 4 = .ok (.iconst 0, 1) := by decide +kernel
theorem d3_5 : decode jdk_43_method_46_code 5 = .ok (.iload_n 0, 1) := by decide +kernel
theorem d3_6 : decode jdk_43_method_46_code 6 = .ok (.i2b, 1) := by decide +kernel
theorem d3_7 : decode jdk_43_method_46_code 7 = .ok (.bastore, 1) := by decide +kernel
theorem d3_8 : decode jdk_43_method_46_code 8 = .ok (.areturn, 1) := by decide +kernel
theorem pn_3 : plainName "java/lang/StringLatin1" = true := by first | (simp [plainName, overriddenIn]; done) | decide +kernel
theorem ef_3 (m : MethodId) (x0 : Int32) : entryFrame m #[(.int x0)] 1 = mkF m 0 #[.val (.int x0)] [] := by first | (simp [entryFrame, mkF, argsToLocals, Value.category]; done) | rfl
def Q_tob (Z : State) (p1 : Int32) (h0 : Heap) (n0 : Nat) (v : Option Value) (h : Heap) (L : List Loc) : Prop := ∃ b, v = some (.ref b) ∧ Fr n0 L ∧ Ext h0 h
theorem rm_tob (l : Launch) (Z : State) (a0 : Array Value) (hw : ∀ d ∈ tables_1, d.before a0 Z = true) (ws : List Jvm.Cond) (p1 : Int32) (h0 : Heap) (n0 : Nat) (Z0 : n0 ≤ h0.size) :
    MetFree l own_y36 (head1 (Jvm.Cond.code own_y36 jdk_43_method_46_code 1 (some (.array .byte)) :: ws) own_r8) (fun a U => a = #[(.int p1)] ∧ Z.Warmed39 U.vm ∧ U.heap = h0) (fun _ _ _ _ _ => True) (fun _ U o U' => ∃ v L, o = .returned v ∧ Q_tob Z p1 h0 n0 v U'.heap L ∧ FrameEnd U o U' L own_r8.cells own_r8.slots) := by
  refine MetFree.of_bodySF (plainFor_of_name pn_3) hisR ?_
  intro p e s m args below meth c s₁ Bd hml0 hP hK
  obtain ⟨rfl, hZ, hh⟩ := hP
  have hx := Bd.exec
  have hby := Bd.bytes
  have hml : c.maxLocals = 1 := hml0
  have hown : s.vm.findClass "java/lang/StringLatin1" = some m.cls := findClass_of_methodNamed Bd.named
  have hnm := (name_of_methodNamed Bd.named Bd.method).1
  have X0 : Stand p l e own_r8 s m #[(.int p1)] below meth c s₁ [] 0 0 := Stand.of_body Bd
  have e0 : s₁.heap = h0 := by rw [← hh, Bd.state]; rfl
  have N0 := Fr.nil n0
  have pre0 : ∀ t, Steps p.tables e below (s₁.setTop (mkF m 0 #[.val (.int p1)] [])) t → Steps p.tables e below (s₁.setTop (entryFrame m #[(.int p1)] 1)) t := fun t k => castTop (ef_3 m p1) k
  obtain ⟨T2, h2, k2, X2, e2, E2, A2, st2⟩ := newP X0 hx hZ (own_w hw 14 rfl) e0 (g := (mkF m 1 #[.val (.int p1)] [(.int (1 : Int32))])) rfl (hb hby d3_1) rfl (by decide) (cap := 1) (by decide) (by decide) (by decide) (by decide)
  obtain ⟨b2, g2⟩ : ∃ z, z = h0.size := ⟨_, rfl⟩
  rw [← g2] at A2 st2
  have V_b2 : Arv Z h2 b2 k2 .byte (1 : Int32) [(.int (0 : Int32))] (.int (0 : Int32)) := (Arv.new A2 (by decide)).pad (pad_rep [] (.int (0 : Int32)) 1)
  have g_b2 : n0 ≤ b2 := Nat.le_trans Z0 (Nat.le_of_eq g2.symm)
  have sz_b2 : h0.size ≤ b2 := (Nat.le_trans (Keep.refl h0 []).1 (Nat.le_of_eq g2.symm))
  have K2 : Keep h0 h2 [] := (Keep.refl h0 []).ext E2
  obtain ⟨cl_b2_7, Ar_b2, q_b2, S_b2, N_b2, H_b2, G_b2⟩ := V_b2
  have hin7 : ¬ ((0 : Int32) < 0 ∨ cl_b2_7.slots.size ≤ ((0 : Int32)).toNatClampNeg) := inb_of S_b2 ⟨by decide, by decide⟩
  obtain ⟨T3, h3, X3, e3, W3, st3⟩ := stB X2 hx hZ e2 Ar_b2 (j := (0 : Int32)) hin7 (g := (mkF m 7 #[.val (.int p1)] [(.int (p1.toInt8.toInt32)), (.int (0 : Int32)), (.ref b2), (.ref b2)])) rfl rfl (hb hby d3_7)
  have V_b2_3 := Arv.set Ar_b2 q_b2 S_b2 N_b2 H_b2 G_b2 (fits_nar_byte _) W3 0 rfl (Nat.le_of_ble_eq_true rfl)
  have K3 : Keep h0 h3 [] := K2.wr W3 (Or.inr sz_b2)
  have N3 := Fr.snoc X3 N0 g_b2
  obtain ⟨fs, hr, hrun, hended, hW, hsame⟩ := X3.leave (v := some (.ref b2)) (fun h => by rw [Bd.returns] at h; cases h)
  refine ⟨_, _, pre0 _ ?_, hrun, hended, _, _, rfl, ?_, ⟨_, rfl⟩, hW, hsame.mono (by decide) (by decide)⟩
  · show Steps _ _ _ (s₁.setTop (mkF m 0 #[.val (.int p1)] [])) _
    refine XS.iconst X0.here hx rfl (hb hby d3_0) ?_
    show Steps _ _ _ (s₁.setTop (mkF m 1 #[.val (.int p1)] [(.int (1 : Int32))])) _
    refine st2 _ ?_
    show Steps _ _ _ (T2.setTop (mkF m 3 #[.val (.int p1)] [(.ref b2)])) _
    refine XS.dup X2.here hx rfl (hb hby d3_3) rfl rfl ?_
    refine XS.iconst X2.here hx rfl (hb hby d3_4) ?_
    refine XS.iloadN X2.here hx rfl (hb hby d3_5) rfl ?_
    refine XS.i2b X2.here hx rfl (hb hby d3_6) rfl ?_
    show Steps _ _ _ (T2.setTop (mkF m 7 #[.val (.int p1)] [(.int (p1.toInt8.toInt32)), (.int (0 : Int32)), (.ref b2), (.ref b2)])) _
    refine st3 _ ?_
    show Steps _ _ _ (T3.setTop (mkF m 8 #[.val (.int p1)] [(.ref b2)])) _
    jvm_step X3.here [X3.here.top, hx, (hb hby d3_8), X3.method', Bd.returns, Value.isRef, FieldType.isReference]
    first | (intro acts; rw [hr _ acts rfl rfl rfl]) | rw [hr _ _ rfl rfl rfl]
    exact Steps.refl _
  · show Q_tob Z p1 h0 n0 _ T3.heap _
    rw [e3]
    exact ⟨_, rfl, N3, own_ext K3⟩
theorem d4_0 : decode jdk_42_method_151_code 0 = .ok (.aload_n 0, 1) := by decide +kernel
theorem d4_1 : decode jdk_42_method_151_code 1 = .ok (.invokespecial 1, 3) := by decide +kernel
theorem d4_4 : decode jdk_42_method_151_code 4 = .ok (.aload_n 0, 1) := by decide +kernel
theorem d4_5 : decode jdk_42_method_151_code 5 = .ok (.aload_n 1, 1) := by decide +kernel
theorem d4_6 : decode jdk_42_method_151_code 6 = .ok (.putfield 9, 3) := by decide +kernel
theorem d4_9 : decode jdk_42_method_151_code 9 = .ok (.aload_n 0, 1) := by decide +kernel
theorem d4_10 : decode jdk_42_method_151_code 10 = .ok (.iload_n 2, 1) := by decide +kernel
theorem d4_11 : decode jdk_42_method_151_code 11 = .ok (.putfield 15, 3) := by decide +kernel
theorem d4_14 : decode jdk_42_method_151_code 14 = .ok (.return_, 1) := by decide +kernel
theorem pn_4 : plainName "java/lang/String" = true := by first | (simp [plainName, overriddenIn]; done) | decide +kernel
theorem ef_4 (m : MethodId) (x0 : Addr) (x1 : Addr) (x2 : Int32) : entryFrame m #[(.ref x0), (.ref x1), (.int x2)] 3 = mkF m 0 #[.val (.ref x0), .val (.ref x1), .val (.int x2)] [] := by first | (simp [entryFrame, mkF, argsToLocals, Value.category]; done) | rfl
def Q_sinit (Z : State) (a1 : Addr) (a2 : Addr) (p3 : Int32) (u_value_a1 : Value) (u_coder_a1 : Value) (h0 : Heap) (n0 : Nat) (v : Option Value) (h : Heap) (L : List Loc) : Prop := v = none ∧ Fr n0 L ∧ Keep h0 h [a1]
theorem rm_sinit (l : Launch) (Z : State) (a0 : Array Value) (hw : ∀ d ∈ tables_1, d.before a0 Z = true) (ws : List Jvm.Cond) (a1 : Addr) (a2 : Addr) (p3 : Int32) (u_value_a1 : Value) (u_coder_a1 : Value) (h0 : Heap) (n0 : Nat) (Z0 : n0 ≤ h0.size) (E_a1 : Exa Z h0 a1 "java/lang/String") (F_value_a1 : Fld Z h0 a1 "java/lang/String" "value" "[B" u_value_a1) (g_a1 : n0 ≤ a1) (F_coder_a1 : Fld Z h0 a1 "java/lang/String" "coder" "B" u_coder_a1) :
    MetFree l own_y37 (head1 (Jvm.Cond.code own_y37 jdk_42_method_151_code 3 none :: ws) own_r2) (fun a U => a = #[(.ref a1), (.ref a2), (.int p3)] ∧ Z.Warmed39 U.vm ∧ U.heap = h0) (fun _ _ _ _ _ => True) (fun _ U o U' => ∃ v L, o = .returned v ∧ Q_sinit Z a1 a2 p3 u_value_a1 u_coder_a1 h0 n0 v U'.heap L ∧ FrameEnd U o U' L own_r2.cells own_r2.slots) := by
  refine MetFree.of_bodySF (plainFor_of_name pn_4) hisR ?_
  intro p e s m args below meth c s₁ Bd hml0 hP hK
  obtain ⟨rfl, hZ, hh⟩ := hP
  have hx := Bd.exec
  have hby := Bd.bytes
  have hml : c.maxLocals = 3 := hml0
  have hown : s.vm.findClass "java/lang/String" = some m.cls := findClass_of_methodNamed Bd.named
  have hnm := (name_of_methodNamed Bd.named Bd.method).1
  have X0 : Stand p l e own_r2 s m #[(.ref a1), (.ref a2), (.int p3)] below meth c s₁ [] 0 0 := Stand.of_body Bd
  have e0 : s₁.heap = h0 := by rw [← hh, Bd.state]; rfl
  have N0 := Fr.nil n0
  have pre0 : ∀ t, Steps p.tables e below (s₁.setTop (mkF m 0 #[.val (.ref a1), .val (.ref a2), .val (.int p3)] [])) t → Steps p.tables e below (s₁.setTop (entryFrame m #[(.ref a1), (.ref a2), (.int p3)] 3)) t := fun t k => castTop (ef_4 m a1 a2 p3) k
  obtain ⟨T4, X4, e4, st4⟩ := initO X0 hx hZ hown (own_w hw 19 rfl) (own_w hw 20 rfl) (own_w hw 21 rfl) e0 (g := (mkF m 1 #[.val (.ref a1), .val (.ref a2), .val (.int p3)] [(.ref a1)])) rfl (by rw [hml]; rfl) rfl (hb hby d4_1) (by decide) (W := 0) (Nat.le_of_eq rfl) (by decide)
  obtain ⟨T5, h5, X5, e5, W5, st5⟩ := putF X4 hx hZ hown (host := "") (Or.inl (own_w hw 22 rfl)) Via.refl e4 F_value_a1 E_a1 (Or.inr ⟨(own_w hw 23 rfl), rfl, hnm⟩) (own_w hw 10 rfl) (ty := (.array .byte)) (by decide) rfl rfl (g := (mkF m 6 #[.val (.ref a1), .val (.ref a2), .val (.int p3)] [(.ref a2), (.ref a1)])) rfl rfl (hb hby d4_6)
  have Fw5 := F_value_a1.same W5
  have K5 : Keep h0 h5 [a1] := (Keep.refl h0 [a1]).wr W5 (Or.inl (List.mem_of_getElem? (i := 0) rfl))
  have N5 := Fr.snoc X5 N0 g_a1
  obtain ⟨T6, h6, X6, e6, W6, st6⟩ := putFN X5 hx hZ hown (own_w hw 24 rfl) Via.refl e5 (F_coder_a1.other W5 (Or.inr (slot_ne (Or.inr (own_w hw 25 rfl)) (Or.inr (own_w hw 23 rfl)) (by decide) (t := .byte) (t' := (.array .byte)) (by decide) (by decide)))) (E_a1.wr W5) (Or.inr ⟨(own_w hw 25 rfl), rfl, hnm⟩) (own_w hw 10 rfl) (ty := .byte) (v' := (.int (p3.toInt8.toInt32))) (by decide) rfl (fits_nar_byte _) (g := (mkF m 11 #[.val (.ref a1), .val (.ref a2), .val (.int p3)] [(.int p3), (.ref a1)])) rfl rfl (hb hby d4_11)
  have Fw6 := (F_coder_a1.other W5 (Or.inr (slot_ne (Or.inr (own_w hw 25 rfl)) (Or.inr (own_w hw 23 rfl)) (by decide) (t := .byte) (t' := (.array .byte)) (by decide) (by decide)))).same W6
  have K6 : Keep h0 h6 [a1] := K5.wr W6 (Or.inl (List.mem_of_getElem? (i := 0) rfl))
  have N6 := Fr.snoc X6 N5 g_a1
  obtain ⟨fs, hr, hrun, hended, hW, hsame⟩ := X6.leave (v := none) (fun _ => rfl)
  refine ⟨_, _, pre0 _ ?_, hrun, hended, _, _, rfl, ?_, ⟨_, rfl⟩, hW, hsame.mono (by decide) (by decide)⟩
  · show Steps _ _ _ (s₁.setTop (mkF m 0 #[.val (.ref a1), .val (.ref a2), .val (.int p3)] [])) _
    refine XS.aloadN X0.here hx rfl (hb hby d4_0) rfl rfl ?_
    show Steps _ _ _ (s₁.setTop (mkF m 1 #[.val (.ref a1), .val (.ref a2), .val (.int p3)] [(.ref a1)])) _
    refine st4 _ ?_
    show Steps _ _ _ (T4.setTop (mkF m 4 #[.val (.ref a1), .val (.ref a2), .val (.int p3)] [])) _
    refine XS.aloadN X4.here hx rfl (hb hby d4_4) rfl rfl ?_
    refine XS.aloadN X4.here hx rfl (hb hby d4_5) rfl rfl ?_
    show Steps _ _ _ (T4.setTop (mkF m 6 #[.val (.ref a1), .val (.ref a2), .val (.int p3)] [(.ref a2), (.ref a1)])) _
    refine st5 _ ?_
    show Steps _ _ _ (T5.setTop (mkF m 9 #[.val (.ref a1), .val (.ref a2), .val (.int p3)] [])) _
    refine XS.aloadN X5.here hx rfl (hb hby d4_9) rfl rfl ?_
    refine XS.iloadN X5.here hx rfl (hb hby d4_10) rfl ?_
    show Steps _ _ _ (T5.setTop (mkF m 11 #[.val (.ref a1), .val (.ref a2), .val (.int p3)] [(.int p3), (.ref a1)])) _
    refine st6 _ ?_
    show Steps _ _ _ (T6.setTop (mkF m 14 #[.val (.ref a1), .val (.ref a2), .val (.int p3)] [])) _
    exact X6.returnOut hx Bd.returns (hb hby d4_14) hr
  · show Q_sinit Z a1 a2 p3 u_value_a1 u_coder_a1 h0 n0 _ T6.heap _
    rw [e6]
    exact ⟨rfl, N6, K6⟩
theorem d1_0 : decode jdk_42_method_139_code 0 = .ok (.getstatic 38, 3) := by decide +kernel
theorem d1_3 : decode jdk_42_method_139_code 3 = .ok (.ifCond .eq 23, 3) := by decide +kernel
theorem d1_6 : decode jdk_42_method_139_code 6 = .ok (.iload_n 0, 1) := by decide +kernel
theorem d1_7 : decode jdk_42_method_139_code 7 = .ok (.invokestatic 1015, 3) := by decide +kernel
theorem d1_10 : decode jdk_42_method_139_code 10 = .ok (.ifCond .eq 16, 3) := by decide +kernel
theorem d1_13 : decode jdk_42_method_139_code 13 = .ok (.new 10, 3) := by decide +kernel
theorem d1_16 : decode jdk_42_method_139_code 16 = .ok (.dup, 1) := by decide +kernel
theorem d1_17 : decode jdk_42_method_139_code 17 = .ok (.iload_n 0, 1) := by decide +kernel
theorem d1_18 : decode jdk_42_method_139_code 18 = .ok (.invokestatic 1018, 3) := by decide +kernel
theorem d1_21 : decode jdk_42_method_139_code 21 = .ok (.iconst 0, 1) := by decide +kernel
theorem d1_22 : decode jdk_42_method_139_code 22 = .ok (.invokespecial 209, 3) := by decide +kernel
theorem d1_25 : decode jdk_42_method_139_code 25 = .ok (.areturn, 1) := by decide +kernel
theorem pn_1 : plainName "java/lang/String" = true := by first | (simp [plainName, overriddenIn]; done) | decide +kernel
theorem pd_1_1 : parseMethodDescriptor "(C)Z" = some ⟨[.char], some .boolean⟩ := by decide +kernel
theorem pd_1_2 : parseMethodDescriptor "(C)[B" = some ⟨[.char], some (.array .byte)⟩ := by decide +kernel
theorem pd_1_3 : parseMethodDescriptor "([BB)V" = some ⟨[(.array .byte), .byte], none⟩ := by decide +kernel
theorem ef_1 (m : MethodId) (x0 : Int32) : entryFrame m #[(.int x0)] 1 = mkF m 0 #[.val (.int x0)] [] := by first | (simp [entryFrame, mkF, argsToLocals, Value.category]; done) | rfl
def Q_vof (Z : State) (p1 : Int32) (cs : Int32) (h0 : Heap) (n0 : Nat) (v : Option Value) (h : Heap) (L : List Loc) : Prop := ∃ b, v = some (.ref b) ∧ Fr n0 L ∧ Ext h0 h
theorem rm_vof (l : Launch) (Z : State) (a0 : Array Value) (hw : ∀ d ∈ tables_1, d.before a0 Z = true) (ws : List Jvm.Cond) (p1 : Int32) (cs : Int32) (h0 : Heap) (n0 : Nat) (Z0 : n0 ≤ h0.size) (Ol : Old Z n0 h0) (S_COMPACT_STRINGS : Sta Z Z.heap "java/lang/String" "COMPACT_STRINGS" "Z" (.int cs)) (hp : ¬ ((255 : Int32) < p1)) (hc3 : ¬ (cs = (0 : Int32))) :
    MetFree l own_y0 (head1 (Jvm.Cond.code own_y0 jdk_42_method_139_code 1 (some (.object "java/lang/String")) :: ws) own_r9) (fun a U => a = #[(.int p1)] ∧ Z.Warmed39 U.vm ∧ U.heap = h0) (fun _ _ _ _ _ => True) (fun _ U o U' => ∃ v L, o = .returned v ∧ Q_vof Z p1 cs h0 n0 v U'.heap L ∧ FrameEnd U o U' L own_r9.cells own_r9.slots) := by
  refine MetFree.of_bodySF (plainFor_of_name pn_1) hisR ?_
  intro p e s m args below meth c s₁ Bd hml0 hP hK
  obtain ⟨rfl, hZ, hh⟩ := hP
  have hx := Bd.exec
  have hby := Bd.bytes
  have hml : c.maxLocals = 1 := hml0
  have hown : s.vm.findClass "java/lang/String" = some m.cls := findClass_of_methodNamed Bd.named
  have hnm := (name_of_methodNamed Bd.named Bd.method).1
  have X0 : Stand p l e own_r9 s m #[(.int p1)] below meth c s₁ [] 0 0 := Stand.of_body Bd
  have e0 : s₁.heap = h0 := by rw [← hh, Bd.state]; rfl
  have N0 := Fr.nil n0
  have pre0 : ∀ t, Steps p.tables e below (s₁.setTop (mkF m 0 #[.val (.int p1)] [])) t → Steps p.tables e below (s₁.setTop (entryFrame m #[(.int p1)] 1)) t := fun t k => castTop (ef_1 m p1) k
  obtain ⟨T2, X2, e2, st2⟩ := getS2 X0 hx hZ hown (host := "") (Or.inl (own_w hw 4 rfl)) Via.refl e0 (S_COMPACT_STRINGS.ext Ol.2) (g := (mkF m 0 #[.val (.int p1)] [])) rfl (hb hby d1_0)
  obtain ⟨_, _, ⟨T3, L3, k3, n3⟩, -, X3, ⟨Lc3, hQ3, l3, y3, z3⟩, st3⟩ := Jvm.LawKit.callS X2 hx (y := own_y35) hown (mvT hZ (own_w hw 5 rfl)) (mvT hZ (own_w hw 6 rfl)) (mvT hZ (own_w hw 7 rfl)) (mvT hZ (own_w hw 8 rfl)) (by decide) (backOf (W := 0) (rm_can l Z a0 hw [] p1  h0 n0 Z0 hp) hZ (own_w hw 8 rfl) (own_w hw 7 rfl) (by decide) (by decide)) (g := (mkF m 7 #[.val (.int p1)] [(.int p1)])) rfl (by rw [hml]; rfl) (argsL := [(.int p1)]) (rest := []) (lenOf pd_1_1 rfl) rfl (Nat.le_of_eq rfl) (hb hby d1_7) (fun _ _ => ⟨rfl, e2, (by decide : 0 + 0 ≤ _), (by decide : 0 + 0 ≤ _)⟩)
  dsimp only [Pt.U, Pt.locs, Pt.cells, Pt.slots] at X3 l3 y3 z3 st3 hQ3
  subst l3 y3 z3
  obtain ⟨rfl, N3q, K3⟩ := hQ3
  have N3 := Fr.app N0 N3q
  obtain ⟨T4, h4, X4, e4, E4, A4, D4, -, st4⟩ := newO X3 hx hZ hown (own_w hw 9 rfl) (own_w hw 10 rfl) (own_w hw 2 rfl) K3 (g := (mkF m 13 #[.val (.int p1)] [])) rfl (hb hby d1_13) (by decide) (by decide)
  obtain ⟨b4, g4⟩ : ∃ z, z = h0.size := ⟨_, rfl⟩
  rw [← g4] at A4 D4 st4
  have F_value_b4 : Fld Z h4 b4 "java/lang/String" "value" "[B" .null := D4 (Or.inr (own_w hw 23 rfl)) (ty := (.array .byte)) (by decide)
  have F_coder_b4 : Fld Z h4 b4 "java/lang/String" "coder" "B" (.int (0 : Int32)) := D4 (Or.inr (own_w hw 25 rfl)) (ty := .byte) (by decide)
  have E_b4 := A4
  have g_b4 : n0 ≤ b4 := Nat.le_trans Z0 (Nat.le_of_eq g4.symm)
  have sz_b4 : h0.size ≤ b4 := (Nat.le_trans (Keep.refl h0 []).1 (Nat.le_of_eq g4.symm))
  have K4 : Keep h0 h4 [] := (Keep.refl h0 []).ext E4
  obtain ⟨_, _, ⟨T5, L5, k5, n5⟩, -, X5, ⟨Lc5, hQ5, l5, y5, z5⟩, st5⟩ := Jvm.LawKit.callS X4 hx (y := own_y36) hown (mvT hZ (own_w hw 11 rfl)) (mvT hZ (own_w hw 12 rfl)) (mvT hZ (own_w hw 7 rfl)) (mvT hZ (own_w hw 13 rfl)) (by decide) (backOf (W := 2) (rm_tob l Z a0 hw [] p1  h4 n0 (Nat.le_trans Z0 E4.1)) hZ (own_w hw 13 rfl) (own_w hw 7 rfl) (by decide) (by decide)) (g := (mkF m 18 #[.val (.int p1)] [(.int p1), (.ref b4), (.ref b4)])) rfl (by rw [hml]; rfl) (argsL := [(.int p1)]) (rest := [(.ref b4), (.ref b4)]) (lenOf pd_1_2 rfl) rfl (Nat.le_of_eq rfl) (hb hby d1_18) (fun _ _ => ⟨rfl, e4, (by decide : 1 + 1 ≤ _), (by decide : 4 + 1 ≤ _)⟩)
  dsimp only [Pt.U, Pt.locs, Pt.cells, Pt.slots] at X5 l5 y5 z5 st5 hQ5
  subst l5 y5 z5
  obtain ⟨bB, rfl, N5q, Ex5⟩ := hQ5
  have N5 := Fr.app N3 N5q
  have Kc5 : Keep h0 T5.heap [] := K4.ext Ex5
  obtain ⟨_, _, ⟨T6, L6, k6, n6⟩, -, X6, ⟨Lc6, hQ6, l6, y6, z6⟩, st6⟩ := X5.specialBack hx (y := own_y37) rfl hown (mvT hZ (own_w hw 15 rfl)) (mvT hZ (own_w hw 16 rfl)) (mvT hZ (own_w hw 18 rfl)) (by decide) (backOf (W := 1) (rm_sinit l Z a0 hw [] b4 bB (0 : Int32) _ _ T5.heap n0 (Nat.le_trans (Nat.le_trans Z0 E4.1) Ex5.1) (E_b4.ext Ex5) (F_value_b4.ext Ex5) g_b4 (F_coder_b4.ext Ex5)) hZ (own_w hw 18 rfl) (own_w hw 2 rfl) (by decide) (by decide)) (g := (mkF m 22 #[.val (.int p1)] [(.int (0 : Int32)), (.ref bB), (.ref b4), (.ref b4)])) rfl (by rw [hml]; rfl) (Steps.refl _) (a := b4) (argsL := [(.ref bB), (.int (0 : Int32))]) (rest := [(.ref b4)]) (lenOf pd_1_3 rfl) rfl (Nat.le_of_eq rfl) (hb hby d1_22) (fun _ _ => ⟨rfl, rfl, (by decide : 2 + 0 ≤ _), (by decide : 5 + 0 ≤ _)⟩)
  dsimp only [Pt.U, Pt.locs, Pt.cells, Pt.slots] at X6 l6 y6 z6 st6 hQ6
  subst l6 y6 z6
  obtain ⟨rfl, N6q, K6⟩ := hQ6
  have N6 := Fr.app N5 N6q
  have Kc6 : Keep h0 T6.heap [] := Kc5.trans K6 (allS (Or.inr sz_b4) all0)
  obtain ⟨fs, hr, hrun, hended, hW, hsame⟩ := X6.leave (v := some (.ref b4)) (fun h => by rw [Bd.returns] at h; cases h)
  refine ⟨_, _, pre0 _ ?_, hrun, hended, _, _, rfl, ?_, ⟨_, rfl⟩, hW, hsame.mono (by decide) (by decide)⟩
  · show Steps _ _ _ (s₁.setTop (mkF m 0 #[.val (.int p1)] [])) _
    refine st2 _ ?_
    show Steps _ _ _ (T2.setTop (mkF m 3 #[.val (.int p1)] [(.int cs)])) _
    refine XS.ifNo X2.here hx rfl (hb hby d1_3) rfl ((if0 _ _).trans (feq hc3).1) ?_
    refine XS.iloadN X2.here hx rfl (hb hby d1_6) rfl ?_
    show Steps _ _ _ (T2.setTop (mkF m 7 #[.val (.int p1)] [(.int p1)])) _
    refine st3 _ ?_
    show Steps _ _ _ (T3.setTop (mkF m 10 #[.val (.int p1)] [(.int (1 : Int32))])) _
    refine XS.ifNo X3.here hx rfl (hb hby d1_10) rfl ((if0 _ _).trans (feq (by decide : ¬ ((1 : Int32) = (0 : Int32)))).1) ?_
    show Steps _ _ _ (T3.setTop (mkF m 13 #[.val (.int p1)] [])) _
    refine st4 _ ?_
    show Steps _ _ _ (T4.setTop (mkF m 16 #[.val (.int p1)] [(.ref b4)])) _
    refine XS.dup X4.here hx rfl (hb hby d1_16) rfl rfl ?_
    refine XS.iloadN X4.here hx rfl (hb hby d1_17) rfl ?_
    show Steps _ _ _ (T4.setTop (mkF m 18 #[.val (.int p1)] [(.int p1), (.ref b4), (.ref b4)])) _
    refine st5 _ ?_
    show Steps _ _ _ (T5.setTop (mkF m 21 #[.val (.int p1)] [(.ref bB), (.ref b4), (.ref b4)])) _
    refine XS.iconst X5.here hx rfl (hb hby d1_21) ?_
    show Steps _ _ _ (T5.setTop (mkF m 22 #[.val (.int p1)] [(.int (0 : Int32)), (.ref bB), (.ref b4), (.ref b4)])) _
    refine st6.trans ?_
    show Steps _ _ _ (T6.setTop (mkF m 25 #[.val (.int p1)] [(.ref b4)])) _
    jvm_step X6.here [X6.here.top, hx, (hb hby d1_25), X6.method', Bd.returns, Value.isRef, FieldType.isReference]
    first | (intro acts; rw [hr _ acts rfl rfl rfl]) | rw [hr _ _ rfl rfl rfl]
    exact Steps.refl _
  · show Q_vof Z p1 cs h0 n0 _ T6.heap _
    exact ⟨_, rfl, N6, own_ext Kc6⟩
theorem d8_0 : decode jdk_22_method_1_code 0 = .ok (.aload_n 0, 1) := by decide +kernel
theorem d8_1 : decode jdk_22_method_1_code 1 = .ok (.invokespecial 1, 3) := by decide +kernel
theorem d8_4 : decode jdk_22_method_1_code 4 = .ok (.return_, 1) := by decide +kernel
theorem pn_8 : plainName "java/util/AbstractCollection" = true := by first | (simp [plainName, overriddenIn]; done) | decide +kernel
theorem ef_8 (m : MethodId) (x0 : Addr) : entryFrame m #[(.ref x0)] 1 = mkF m 0 #[.val (.ref x0)] [] := by first | (simp [entryFrame, mkF, argsToLocals, Value.category]; done) | rfl
def Q_ac (Z : State) (a1 : Addr) (h0 : Heap) (n0 : Nat) (v : Option Value) (h : Heap) (L : List Loc) : Prop := v = none ∧ Fr n0 L ∧ h = h0
theorem rm_ac (l : Launch) (Z : State) (a0 : Array Value) (hw : ∀ d ∈ tables_1, d.before a0 Z = true) (ws : List Jvm.Cond) (a1 : Addr) (h0 : Heap) (n0 : Nat) (Z0 : n0 ≤ h0.size) :
    MetFree l own_y29 (head1 (Jvm.Cond.code own_y29 jdk_22_method_1_code 1 none :: ws) own_r2) (fun a U => a = #[(.ref a1)] ∧ Z.Warmed39 U.vm ∧ U.heap = h0) (fun _ _ _ _ _ => True) (fun _ U o U' => ∃ v L, o = .returned v ∧ Q_ac Z a1 h0 n0 v U'.heap L ∧ FrameEnd U o U' L own_r2.cells own_r2.slots) := by
  refine MetFree.of_bodySF (plainFor_of_name pn_8) hisR ?_
  intro p e s m args below meth c s₁ Bd hml0 hP hK
  obtain ⟨rfl, hZ, hh⟩ := hP
  have hx := Bd.exec
  have hby := Bd.bytes
  have hml : c.maxLocals = 1 := hml0
  have hown : s.vm.findClass "java/util/AbstractCollection" = some m.cls := findClass_of_methodNamed Bd.named
  have hnm := (name_of_methodNamed Bd.named Bd.method).1
  have X0 : Stand p l e own_r2 s m #[(.ref a1)] below meth c s₁ [] 0 0 := Stand.of_body Bd
  have e0 : s₁.heap = h0 := by rw [← hh, Bd.state]; rfl
  have N0 := Fr.nil n0
  have pre0 : ∀ t, Steps p.tables e below (s₁.setTop (mkF m 0 #[.val (.ref a1)] [])) t → Steps p.tables e below (s₁.setTop (entryFrame m #[(.ref a1)] 1)) t := fun t k => castTop (ef_8 m a1) k
  obtain ⟨T2, X2, e2, st2⟩ := initO X0 hx hZ hown (own_w hw 44 rfl) (own_w hw 20 rfl) (own_w hw 21 rfl) e0 (g := (mkF m 1 #[.val (.ref a1)] [(.ref a1)])) rfl (by rw [hml]; rfl) rfl (hb hby d8_1) (by decide) (W := 0) (Nat.le_of_eq rfl) (by decide)
  obtain ⟨fs, hr, hrun, hended, hW, hsame⟩ := X2.leave (v := none) (fun _ => rfl)
  refine ⟨_, _, pre0 _ ?_, hrun, hended, _, _, rfl, ?_, ⟨_, rfl⟩, hW, hsame.mono (by decide) (by decide)⟩
  · show Steps _ _ _ (s₁.setTop (mkF m 0 #[.val (.ref a1)] [])) _
    refine XS.aloadN X0.here hx rfl (hb hby d8_0) rfl rfl ?_
    show Steps _ _ _ (s₁.setTop (mkF m 1 #[.val (.ref a1)] [(.ref a1)])) _
    refine st2 _ ?_
    show Steps _ _ _ (T2.setTop (mkF m 4 #[.val (.ref a1)] [])) _
    exact X2.returnOut hx Bd.returns (hb hby d8_4) hr
  · show Q_ac Z a1 h0 n0 _ T2.heap _
    rw [e2]
    exact ⟨rfl, N0, rfl⟩
theorem d7_0 : decode jdk_39_method_1_code 0 = .ok (.aload_n 0, 1) := by decide +kernel
theorem d7_1 : decode jdk_39_method_1_code 1 = .ok (.invokespecial 1, 3) := by decide +kernel
theorem d7_4 : decode jdk_39_method_1_code 4 = .ok (.aload_n 0, 1) := by decide +kernel
theorem d7_5 : decode jdk_39_method_1_code 5 = .ok (.iconst 0, 1) := by decide +kernel
theorem d7_6 : decode jdk_39_method_1_code 6 = .ok (.putfield 7, 3) := by decide +kernel
theorem d7_9 : decode jdk_39_method_1_code 9 = .ok (.return_, 1) := by decide +kernel
theorem pn_7 : plainName "java/util/AbstractList" = true := by first | (simp [plainName, overriddenIn]; done) | decide +kernel
theorem pd_7_4 : parseMethodDescriptor "()V" = some ⟨[], none⟩ := by decide +kernel
theorem ef_7 (m : MethodId) (x0 : Addr) : entryFrame m #[(.ref x0)] 1 = mkF m 0 #[.val (.ref x0)] [] := by first | (simp [entryFrame, mkF, argsToLocals, Value.category]; done) | rfl
def Q_abl (Z : State) (a1 : Addr) (ue : Value) (us : Value) (um : Value) (h0 : Heap) (n0 : Nat) (v : Option Value) (h : Heap) (L : List Loc) : Prop := v = none ∧ Fr n0 L ∧ Keep h0 h [a1] ∧ Exa Z h a1 "java/util/ArrayList" ∧ Fld Z h a1 "java/util/ArrayList" "elementData" "[Ljava/lang/Object;" ue ∧ Fld Z h a1 "java/util/ArrayList" "size" "I" us ∧ Fld Z h a1 "java/util/AbstractList" "modCount" "I" (.int (0 : Int32))
theorem rm_abl (l : Launch) (Z : State) (a0 : Array Value) (hw : ∀ d ∈ tables_1, d.before a0 Z = true) (ws : List Jvm.Cond) (a1 : Addr) (ue : Value) (us : Value) (um : Value) (h0 : Heap) (n0 : Nat) (Z0 : n0 ≤ h0.size) (E_a1 : Exa Z h0 a1 "java/util/ArrayList") (Fe_a1 : Fld Z h0 a1 "java/util/ArrayList" "elementData" "[Ljava/lang/Object;" ue) (Fs_a1 : Fld Z h0 a1 "java/util/ArrayList" "size" "I" us) (Fm_a1 : Fld Z h0 a1 "java/util/AbstractList" "modCount" "I" um) (g_a1 : n0 ≤ a1) :
    MetFree l own_y38 (head1 (Jvm.Cond.code own_y38 jdk_39_method_1_code 1 none :: ws) own_r4) (fun a U => a = #[(.ref a1)] ∧ Z.Warmed39 U.vm ∧ U.heap = h0) (fun _ _ _ _ _ => True) (fun _ U o U' => ∃ v L, o = .returned v ∧ Q_abl Z a1 ue us um h0 n0 v U'.heap L ∧ FrameEnd U o U' L own_r4.cells own_r4.slots) := by
  refine MetFree.of_bodySF (plainFor_of_name pn_7) hisR ?_
  intro p e s m args below meth c s₁ Bd hml0 hP hK
  obtain ⟨rfl, hZ, hh⟩ := hP
  have hx := Bd.exec
  have hby := Bd.bytes
  have hml : c.maxLocals = 1 := hml0
  have hown : s.vm.findClass "java/util/AbstractList" = some m.cls := findClass_of_methodNamed Bd.named
  have hnm := (name_of_methodNamed Bd.named Bd.method).1
  have X0 : Stand p l e own_r4 s m #[(.ref a1)] below meth c s₁ [] 0 0 := Stand.of_body Bd
  have e0 : s₁.heap = h0 := by rw [← hh, Bd.state]; rfl
  have N0 := Fr.nil n0
  have pre0 : ∀ t, Steps p.tables e below (s₁.setTop (mkF m 0 #[.val (.ref a1)] [])) t → Steps p.tables e below (s₁.setTop (entryFrame m #[(.ref a1)] 1)) t := fun t k => castTop (ef_7 m a1) k
  obtain ⟨_, _, ⟨T2, L2, k2, n2⟩, -, X2, ⟨Lc2, hQ2, l2, y2, z2⟩, st2⟩ := X0.specialBack hx (y := own_y29) rfl hown (mvT hZ (own_w hw 38 rfl)) (mvT hZ (own_w hw 39 rfl)) (mvT hZ (own_w hw 43 rfl)) (by decide) (backOf (W := 0) (rm_ac l Z a0 hw [] a1  h0 n0 Z0) hZ (own_w hw 43 rfl) (own_w hw 42 rfl) (by decide) (by decide)) (g := (mkF m 1 #[.val (.ref a1)] [(.ref a1)])) rfl (by rw [hml]; rfl) (Steps.refl _) (a := a1) (argsL := []) (rest := []) (lenOf pd_7_4 rfl) rfl (Nat.le_of_eq rfl) (hb hby d7_1) (fun _ _ => ⟨rfl, e0, (by decide : 0 + 0 ≤ _), (by decide : 0 + 0 ≤ _)⟩)
  dsimp only [Pt.U, Pt.locs, Pt.cells, Pt.slots] at X2 l2 y2 z2 st2 hQ2
  subst l2 y2 z2
  obtain ⟨rfl, N2q, K2⟩ := hQ2
  have N2 := Fr.app N0 N2q
  obtain ⟨T3, h3, X3, e3, W3, st3⟩ := putF X2 hx hZ hown (host := "") (Or.inl (own_w hw 45 rfl)) Via.refl K2 Fm_a1 E_a1 (Or.inl (own_w hw 46 rfl)) (own_w hw 27 rfl) (ty := .int) (by decide) rfl rfl (g := (mkF m 6 #[.val (.ref a1)] [(.int (0 : Int32)), (.ref a1)])) rfl rfl (hb hby d7_6)
  have Fw3 := Fm_a1.same W3
  have K3 : Keep h0 h3 [a1] := (Keep.refl h0 [a1]).wr W3 (Or.inl (List.mem_of_getElem? (i := 0) rfl))
  have N3 := Fr.snoc X3 N2 g_a1
  obtain ⟨fs, hr, hrun, hended, hW, hsame⟩ := X3.leave (v := none) (fun _ => rfl)
  refine ⟨_, _, pre0 _ ?_, hrun, hended, _, _, rfl, ?_, ⟨_, rfl⟩, hW, hsame.mono (by decide) (by decide)⟩
  · show Steps _ _ _ (s₁.setTop (mkF m 0 #[.val (.ref a1)] [])) _
    refine XS.aloadN X0.here hx rfl (hb hby d7_0) rfl rfl ?_
    show Steps _ _ _ (s₁.setTop (mkF m 1 #[.val (.ref a1)] [(.ref a1)])) _
    refine st2.trans ?_
    show Steps _ _ _ (T2.setTop (mkF m 4 #[.val (.ref a1)] [])) _
    refine XS.aloadN X2.here hx rfl (hb hby d7_4) rfl rfl ?_
    refine XS.iconst X2.here hx rfl (hb hby d7_5) ?_
    show Steps _ _ _ (T2.setTop (mkF m 6 #[.val (.ref a1)] [(.int (0 : Int32)), (.ref a1)])) _
    refine st3 _ ?_
    show Steps _ _ _ (T3.setTop (mkF m 9 #[.val (.ref a1)] [])) _
    exact X3.returnOut hx Bd.returns (hb hby d7_9) hr
  · show Q_abl Z a1 ue us um h0 n0 _ T3.heap _
    rw [e3]
    exact ⟨rfl, N3, K3, (E_a1.wr W3), (Fe_a1.other W3 (Or.inr (slot_ne (Or.inl (own_w hw 49 rfl)) (Or.inl (own_w hw 46 rfl)) (by decide) (t := (.array (.object "java/lang/Object"))) (t' := .int) (by decide) (by decide)))), (Fs_a1.other W3 (Or.inr (slot_ne (Or.inl (own_w hw 82 rfl)) (Or.inl (own_w hw 46 rfl)) (by decide) (t := .int) (t' := .int) (by decide) (by decide)))), Fw3⟩
theorem d6_0 : decode jdk_38_method_2_code 0 = .ok (.aload_n 0, 1) := by decide +kernel
theorem d6_1 : decode jdk_38_method_2_code 1 = .ok (.invokespecial 1, 3) := by decide +kernel
theorem d6_4 : decode jdk_38_method_2_code 4 = .ok (.aload_n 0, 1) := by decide +kernel
theorem d6_5 : decode jdk_38_method_2_code 5 = .ok (.getstatic 39, 3) := by decide +kernel
theorem d6_8 : decode jdk_38_method_2_code 8 = .ok (.putfield 9, 3) := by decide +kernel
theorem d6_11 : decode jdk_38_method_2_code 11 = .ok (.return_, 1) := by decide +kernel
theorem pn_6 : plainName "java/util/ArrayList" = true := by first | (simp [plainName, overriddenIn]; done) | decide +kernel
theorem pd_6_4 : parseMethodDescriptor "()V" = some ⟨[], none⟩ := by decide +kernel
theorem ef_6 (m : MethodId) (x0 : Addr) : entryFrame m #[(.ref x0)] 1 = mkF m 0 #[.val (.ref x0)] [] := by first | (simp [entryFrame, mkF, argsToLocals, Value.category]; done) | rfl
def Q_al (Z : State) (a1 : Addr) (wD : Addr) (ue : Value) (us : Value) (um : Value) (h0 : Heap) (n0 : Nat) (v : Option Value) (h : Heap) (L : List Loc) : Prop := v = none ∧ Fr n0 L ∧ Keep h0 h [a1] ∧ Exa Z h a1 "java/util/ArrayList" ∧ Fld Z h a1 "java/util/ArrayList" "elementData" "[Ljava/lang/Object;" (.ref wD) ∧ Fld Z h a1 "java/util/ArrayList" "size" "I" us ∧ Fld Z h a1 "java/util/AbstractList" "modCount" "I" (.int (0 : Int32))
theorem rm_al (l : Launch) (Z : State) (a0 : Array Value) (hw : ∀ d ∈ tables_1, d.before a0 Z = true) (ws : List Jvm.Cond) (a1 : Addr) (wD : Addr) (ue : Value) (us : Value) (um : Value) (h0 : Heap) (n0 : Nat) (Z0 : n0 ≤ h0.size) (Ol : Old Z n0 h0) (S_DEFAULTCAPACITY_EMPTY_ELEMENTDATA : Sta Z Z.heap "java/util/ArrayList" "DEFAULTCAPACITY_EMPTY_ELEMENTDATA" "[Ljava/lang/Object;" (.ref wD)) (E_a1 : Exa Z h0 a1 "java/util/ArrayList") (Fe_a1 : Fld Z h0 a1 "java/util/ArrayList" "elementData" "[Ljava/lang/Object;" ue) (Fs_a1 : Fld Z h0 a1 "java/util/ArrayList" "size" "I" us) (Fm_a1 : Fld Z h0 a1 "java/util/AbstractList" "modCount" "I" um) (g_a1 : n0 ≤ a1) :
    MetFree l own_y3 (head1 (Jvm.Cond.code own_y3 jdk_38_method_2_code 1 none :: ws) own_r6) (fun a U => a = #[(.ref a1)] ∧ Z.Warmed39 U.vm ∧ U.heap = h0) (fun _ _ _ _ _ => True) (fun _ U o U' => ∃ v L, o = .returned v ∧ Q_al Z a1 wD ue us um h0 n0 v U'.heap L ∧ FrameEnd U o U' L own_r6.cells own_r6.slots) := by
  refine MetFree.of_bodySF (plainFor_of_name pn_6) hisR ?_
  intro p e s m args below meth c s₁ Bd hml0 hP hK
  obtain ⟨rfl, hZ, hh⟩ := hP
  have hx := Bd.exec
  have hby := Bd.bytes
  have hml : c.maxLocals = 1 := hml0
  have hown : s.vm.findClass "java/util/ArrayList" = some m.cls := findClass_of_methodNamed Bd.named
  have hnm := (name_of_methodNamed Bd.named Bd.method).1
  have X0 : Stand p l e own_r6 s m #[(.ref a1)] below meth c s₁ [] 0 0 := Stand.of_body Bd
  have e0 : s₁.heap = h0 := by rw [← hh, Bd.state]; rfl
  have N0 := Fr.nil n0
  have pre0 : ∀ t, Steps p.tables e below (s₁.setTop (mkF m 0 #[.val (.ref a1)] [])) t → Steps p.tables e below (s₁.setTop (entryFrame m #[(.ref a1)] 1)) t := fun t k => castTop (ef_6 m a1) k
  obtain ⟨_, _, ⟨T2, L2, k2, n2⟩, -, X2, ⟨Lc2, hQ2, l2, y2, z2⟩, st2⟩ := X0.specialBack hx (y := own_y38) rfl hown (mvT hZ (own_w hw 32 rfl)) (mvT hZ (own_w hw 33 rfl)) (mvT hZ (own_w hw 37 rfl)) (by decide) (backOf (W := 0) (rm_abl l Z a0 hw [] a1 _ _ _ h0 n0 Z0 E_a1 Fe_a1 Fs_a1 Fm_a1 g_a1) hZ (own_w hw 37 rfl) (own_w hw 36 rfl) (by decide) (by decide)) (g := (mkF m 1 #[.val (.ref a1)] [(.ref a1)])) rfl (by rw [hml]; rfl) (Steps.refl _) (a := a1) (argsL := []) (rest := []) (lenOf pd_6_4 rfl) rfl (Nat.le_of_eq rfl) (hb hby d6_1) (fun _ _ => ⟨rfl, e0, (by decide : 0 + 0 ≤ _), (by decide : 0 + 0 ≤ _)⟩)
  dsimp only [Pt.U, Pt.locs, Pt.cells, Pt.slots] at X2 l2 y2 z2 st2 hQ2
  subst l2 y2 z2
  obtain ⟨rfl, N2q, K2, Ec_a1, Fec_a1, Fsc_a1, Fmc_a1⟩ := hQ2
  have N2 := Fr.app N0 N2q
  have Kc2 : Keep h0 T2.heap [a1] := (Keep.refl h0 [a1]).trans K2 (allS (Or.inl (List.mem_of_getElem? (i := 0) rfl)) all0)
  obtain ⟨T3, X3, e3, st3⟩ := getS2 X2 hx hZ hown (host := "") (Or.inl (own_w hw 47 rfl)) Via.refl rfl (S_DEFAULTCAPACITY_EMPTY_ELEMENTDATA.ext (Ol.keep K2 (allS g_a1 all0)).2) (g := (mkF m 5 #[.val (.ref a1)] [(.ref a1)])) rfl (hb hby d6_5)
  obtain ⟨T4, h4, X4, e4, W4, st4⟩ := putF X3 hx hZ hown (host := "") (Or.inl (own_w hw 48 rfl)) Via.refl e3 Fec_a1 Ec_a1 (Or.inl (own_w hw 49 rfl)) (own_w hw 27 rfl) (ty := (.array (.object "java/lang/Object"))) (by decide) rfl rfl (g := (mkF m 8 #[.val (.ref a1)] [(.ref wD), (.ref a1)])) rfl rfl (hb hby d6_8)
  have Fw4 := Fec_a1.same W4
  have K4 : Keep h0 h4 [a1] := Kc2.wr W4 (Or.inl (List.mem_of_getElem? (i := 0) rfl))
  have N4 := Fr.snoc X4 N2 g_a1
  obtain ⟨fs, hr, hrun, hended, hW, hsame⟩ := X4.leave (v := none) (fun _ => rfl)
  refine ⟨_, _, pre0 _ ?_, hrun, hended, _, _, rfl, ?_, ⟨_, rfl⟩, hW, hsame.mono (by decide) (by decide)⟩
  · show Steps _ _ _ (s₁.setTop (mkF m 0 #[.val (.ref a1)] [])) _
    refine XS.aloadN X0.here hx rfl (hb hby d6_0) rfl rfl ?_
    show Steps _ _ _ (s₁.setTop (mkF m 1 #[.val (.ref a1)] [(.ref a1)])) _
    refine st2.trans ?_
    show Steps _ _ _ (T2.setTop (mkF m 4 #[.val (.ref a1)] [])) _
    refine XS.aloadN X2.here hx rfl (hb hby d6_4) rfl rfl ?_
    show Steps _ _ _ (T2.setTop (mkF m 5 #[.val (.ref a1)] [(.ref a1)])) _
    refine st3 _ ?_
    show Steps _ _ _ (T3.setTop (mkF m 8 #[.val (.ref a1)] [(.ref wD), (.ref a1)])) _
    refine st4 _ ?_
    show Steps _ _ _ (T4.setTop (mkF m 11 #[.val (.ref a1)] [])) _
    exact X4.returnOut hx Bd.returns (hb hby d6_11) hr
  · show Q_al Z a1 wD ue us um h0 n0 _ T4.heap _
    rw [e4]
    exact ⟨rfl, N4, K4, (Ec_a1.wr W4), Fw4, (Fsc_a1.other W4 (Or.inr (slot_ne (Or.inl (own_w hw 82 rfl)) (Or.inl (own_w hw 49 rfl)) (by decide) (t := .int) (t' := (.array (.object "java/lang/Object"))) (by decide) (by decide)))), (Fmc_a1.other W4 (Or.inr (slot_ne (Or.inl (own_w hw 46 rfl)) (Or.inl (own_w hw 49 rfl)) (by decide) (t := .int) (t' := (.array (.object "java/lang/Object"))) (by decide) (by decide))))⟩
theorem d16_0 : decode jdk_29_method_65_code 0 = .ok (.iload_n 0, 1) := by decide +kernel
theorem d16_1 : decode jdk_29_method_65_code 1 = .ok (.iload_n 1, 1) := by decide +kernel
theorem d16_2 : decode jdk_29_method_65_code 2 = .ok (.if_icmp .lt 7, 3) := by decide +kernel
theorem d16_5 : decode jdk_29_method_65_code 5 = .ok (.iload_n 0, 1) := by decide +kernel
theorem d16_6 : decode jdk_29_method_65_code 6 = .ok (.goto 4, 3) := by decide +kernel
theorem d16_10 : decode jdk_29_method_65_code 10 = .ok (.ireturn, 1) := by decide +kernel
theorem ef_16 (m : MethodId) (x0 : Int32) (x1 : Int32) : entryFrame m #[(.int x0), (.int x1)] 2 = mkF m 0 #[.val (.int x0), .val (.int x1)] [] := by first | (simp [entryFrame, mkF, argsToLocals, Value.category]; done) | rfl
def Q_max (Z : State) (p1 : Int32) (p2 : Int32) (h0 : Heap) (n0 : Nat) (v : Option Value) (h : Heap) (L : List Loc) : Prop := v = some (.int p1) ∧ Fr n0 L ∧ h = h0
theorem rm_max (l : Launch) (Z : State) (a0 : Array Value) (hw : ∀ d ∈ tables_1, d.before a0 Z = true) (ws : List Jvm.Cond) (p1 : Int32) (p2 : Int32) (h0 : Heap) (n0 : Nat) (Z0 : n0 ≤ h0.size) (hc2 : ¬ (p1 < p2)) :
    MetFree l own_y39 (head1 (Jvm.Cond.code own_y39 jdk_29_method_65_code 2 (some .int) :: ws) own_r0) (fun a U => a = #[(.int p1), (.int p2)] ∧ Z.Warmed39 U.vm ∧ U.heap = h0) (fun _ _ _ _ _ => True) (fun _ U o U' => ∃ v L, o = .returned v ∧ Q_max Z p1 p2 h0 n0 v U'.heap L ∧ FrameEnd U o U' L own_r0.cells own_r0.slots) := by
  refine MetFree.of_bodySF (Jvm.Free.JP.mathPlain rfl (by decide +kernel)) hisR ?_
  intro p e s m args below meth c s₁ Bd hml0 hP hK
  obtain ⟨rfl, hZ, hh⟩ := hP
  have hx := Bd.exec
  have hby := Bd.bytes
  have hml : c.maxLocals = 2 := hml0
  have hown : s.vm.findClass "java/lang/Math" = some m.cls := findClass_of_methodNamed Bd.named
  have hnm := (name_of_methodNamed Bd.named Bd.method).1
  have X0 : Stand p l e own_r0 s m #[(.int p1), (.int p2)] below meth c s₁ [] 0 0 := Stand.of_body Bd
  have e0 : s₁.heap = h0 := by rw [← hh, Bd.state]; rfl
  have N0 := Fr.nil n0
  have pre0 : ∀ t, Steps p.tables e below (s₁.setTop (mkF m 0 #[.val (.int p1), .val (.int p2)] [])) t → Steps p.tables e below (s₁.setTop (entryFrame m #[(.int p1), (.int p2)] 2)) t := fun t k => castTop (ef_16 m p1 p2) k
  obtain ⟨fs, hr, hrun, hended, hW, hsame⟩ := X0.leave (v := some (.int p1)) (fun h => by rw [Bd.returns] at h; cases h)
  refine ⟨_, _, pre0 _ ?_, hrun, hended, _, _, rfl, ?_, ⟨_, rfl⟩, hW, hsame.mono (by decide) (by decide)⟩
  · show Steps _ _ _ (s₁.setTop (mkF m 0 #[.val (.int p1), .val (.int p2)] [])) _
    refine XS.iloadN X0.here hx rfl (hb hby d16_0) rfl ?_
    refine XS.iloadN X0.here hx rfl (hb hby d16_1) rfl ?_
    refine XS.icmpNo X0.here hx rfl (hb hby d16_2) rfl (flt hc2).1 ?_
    refine XS.iloadN X0.here hx rfl (hb hby d16_5) rfl ?_
    show Steps _ _ _ (s₁.setTop (mkF m 6 #[.val (.int p1), .val (.int p2)] [(.int p1)])) _
    refine XS.goto X0.here hx rfl (pc0 := 6) (pc' := 10) rfl (hb hby d16_6) (by decide) (by decide) ?_
    show Steps _ _ _ (s₁.setTop (mkF m 10 #[.val (.int p1), .val (.int p2)] [(.int p1)])) _
    exact retI X0 hx Bd.returns (hb hby d16_10) hr
  · show Q_max Z p1 p2 h0 n0 _ s₁.heap _
    rw [e0]
    exact ⟨rfl, N0, rfl⟩
theorem d15_0 : decode jdk_38_method_6_code 0 = .ok (.aload_n 0, 1) := by decide +kernel
theorem d15_1 : decode jdk_38_method_6_code 1 = .ok (.getfield 9, 3) := by decide +kernel
theorem d15_4 : decode jdk_38_method_6_code 4 = .ok (.arraylength, 1) := by decide +kernel
theorem d15_5 : decode jdk_38_method_6_code 5 = .ok (.istore_n 2, 1) := by decide +kernel
theorem d15_6 : decode jdk_38_method_6_code 6 = .ok (.iload_n 2, 1) := by decide +kernel
theorem d15_7 : decode jdk_38_method_6_code 7 = .ok (.ifCond .gt 13, 3) := by decide +kernel
theorem d15_10 : decode jdk_38_method_6_code 10 = .ok (.aload_n 0, 1) := by decide +kernel
theorem d15_11 : decode jdk_38_method_6_code 11 = .ok (.getfield 9, 3) := by decide +kernel
theorem d15_14 : decode jdk_38_method_6_code 14 = .ok (.getstatic 39, 3) := by decide +kernel
theorem d15_17 : decode jdk_38_method_6_code 17 = .ok (.if_acmp .eq 28, 3) := by decide +kernel
theorem d15_45 : decode jdk_38_method_6_code 45 = .ok (.aload_n 0, 1) := by decide +kernel
theorem d15_46 : decode jdk_38_method_6_code 46 = .ok (.bipush 10, 2) := by decide +kernel
theorem d15_48 : decode jdk_38_method_6_code 48 = .ok (.iload_n 1, 1) := by decide +kernel
theorem d15_49 : decode jdk_38_method_6_code 49 = .ok (.invokestatic 79, 3) := by decide +kernel
theorem d15_52 : decode jdk_38_method_6_code 52 = .ok (.anewarray 7, 3) := by decide +kernel
theorem d15_55 : decode jdk_38_method_6_code 55 = .ok (.dup_x1, 1) := by decide +kernel
theorem d15_56 : decode jdk_38_method_6_code 56 = .ok (.putfield 9, 3) := by decide +kernel
theorem d15_59 : decode jdk_38_method_6_code 59 = .ok (.areturn, 1) := by decide +kernel
theorem pn_15 : plainName "java/util/ArrayList" = true := by first | (simp [plainName, overriddenIn]; done) | decide +kernel
theorem pd_15_11 : parseMethodDescriptor "(II)I" = some ⟨[.int, .int], some .int⟩ := by decide +kernel
theorem ef_15 (m : MethodId) (x0 : Addr) (x1 : Int32) : entryFrame m #[(.ref x0), (.int x1)] 4 = mkF m 0 #[.val (.ref x0), .val (.int x1), .unset, .unset] [] := by first | (simp [entryFrame, mkF, argsToLocals, Value.category]; done) | rfl
def Q_growI (Z : State) (a1 : Addr) (p2 : Int32) (wD : Addr) (ps : Int32) (um : Value) (cl_wD : Cell) (h0 : Heap) (n0 : Nat) (v : Option Value) (h : Heap) (L : List Loc) : Prop := ∃ b kA, v = some (.ref b) ∧ Fr n0 L ∧ Keep h0 h [a1] ∧ Exa Z h a1 "java/util/ArrayList" ∧ Fld Z h a1 "java/util/ArrayList" "elementData" "[Ljava/lang/Object;" (.ref b) ∧ Fld Z h a1 "java/util/ArrayList" "size" "I" (.int ps) ∧ Fld Z h a1 "java/util/AbstractList" "modCount" "I" um ∧ Arv Z h b kA (.object "java/lang/Object") (10 : Int32) (List.replicate 10 .null) .null ∧ Ovr Z kA "java/lang/Object" ∧ n0 ≤ b ∧ h0.size ≤ b ∧ Exa Z h b "[Ljava/lang/Object;"
theorem rm_growI (l : Launch) (Z : State) (a0 : Array Value) (hw : ∀ d ∈ tables_1, d.before a0 Z = true) (ws : List Jvm.Cond) (a1 : Addr) (p2 : Int32) (wD : Addr) (ps : Int32) (um : Value) (cl_wD : Cell) (h0 : Heap) (n0 : Nat) (Z0 : n0 ≤ h0.size) (Ol : Old Z n0 h0) (S_DEFAULTCAPACITY_EMPTY_ELEMENTDATA : Sta Z Z.heap "java/util/ArrayList" "DEFAULTCAPACITY_EMPTY_ELEMENTDATA" "[Ljava/lang/Object;" (.ref wD)) (E_a1 : Exa Z h0 a1 "java/util/ArrayList") (Fe_a1 : Fld Z h0 a1 "java/util/ArrayList" "elementData" "[Ljava/lang/Object;" (.ref wD)) (Fs_a1 : Fld Z h0 a1 "java/util/ArrayList" "size" "I" (.int ps)) (Fm_a1 : Fld Z h0 a1 "java/util/AbstractList" "modCount" "I" um) (Ar_wD : Arr Z h0 wD cl_wD (.object "java/lang/Object")) (S_wD : cl_wD.slots.size = (0 : Int32).toNatClampNeg) (g_a1 : n0 ≤ a1) (hp2 : ¬ ((10 : Int32) < p2)) :
    MetFree l own_y40 (head1 (Jvm.Cond.code own_y40 jdk_38_method_6_code 4 (some (.array (.object "java/lang/Object"))) :: ws) own_r10) (fun a U => a = #[(.ref a1), (.int p2)] ∧ Z.Warmed39 U.vm ∧ U.heap = h0) (fun _ _ _ _ _ => True) (fun _ U o U' => ∃ v L, o = .returned v ∧ Q_growI Z a1 p2 wD ps um cl_wD h0 n0 v U'.heap L ∧ FrameEnd U o U' L own_r10.cells own_r10.slots) := by
  refine MetFree.of_bodySF (plainFor_of_name pn_15) hisR ?_
  intro p e s m args below meth c s₁ Bd hml0 hP hK
  obtain ⟨rfl, hZ, hh⟩ := hP
  have hx := Bd.exec
  have hby := Bd.bytes
  have hml : c.maxLocals = 4 := hml0
  have hown : s.vm.findClass "java/util/ArrayList" = some m.cls := findClass_of_methodNamed Bd.named
  have hnm := (name_of_methodNamed Bd.named Bd.method).1
  have X0 : Stand p l e own_r10 s m #[(.ref a1), (.int p2)] below meth c s₁ [] 0 0 := Stand.of_body Bd
  have e0 : s₁.heap = h0 := by rw [← hh, Bd.state]; rfl
  have N0 := Fr.nil n0
  have pre0 : ∀ t, Steps p.tables e below (s₁.setTop (mkF m 0 #[.val (.ref a1), .val (.int p2), .unset, .unset] [])) t → Steps p.tables e below (s₁.setTop (entryFrame m #[(.ref a1), (.int p2)] 4)) t := fun t k => castTop (ef_15 m a1 p2) k
  have N_wD : ¬ (0 : Int32) < 0 := by decide
  obtain ⟨T3, X3, e3, st3⟩ := getF X0 hx hZ hown (host := "") (Or.inl (own_w hw 48 rfl)) Via.refl e0 Fe_a1 (g := (mkF m 1 #[.val (.ref a1), .val (.int p2), .unset, .unset] [(.ref a1)])) rfl rfl (hb hby d15_1)
  obtain ⟨T4, X4, e4, st4⟩ := getF X3 hx hZ hown (host := "") (Or.inl (own_w hw 48 rfl)) Via.refl e3 Fe_a1 (g := (mkF m 11 #[.val (.ref a1), .val (.int p2), .val (.int (0 : Int32)), .unset] [(.ref a1)])) rfl rfl (hb hby d15_11)
  obtain ⟨T5, X5, e5, st5⟩ := getS2 X4 hx hZ hown (host := "") (Or.inl (own_w hw 47 rfl)) Via.refl e4 (S_DEFAULTCAPACITY_EMPTY_ELEMENTDATA.ext Ol.2) (g := (mkF m 14 #[.val (.ref a1), .val (.int p2), .val (.int (0 : Int32)), .unset] [(.ref wD)])) rfl (hb hby d15_14)
  obtain ⟨_, _, ⟨T6, L6, k6, n6⟩, -, X6, ⟨Lc6, hQ6, l6, y6, z6⟩, st6⟩ := Jvm.LawKit.callS X5 hx (y := own_y39) hown (mvT hZ (own_w hw 98 rfl)) (mvT hZ (own_w hw 99 rfl)) (mvT hZ (own_w hw 100 rfl)) (mvT hZ (own_w hw 101 rfl)) (by decide) (backOf (W := 1) (rm_max l Z a0 hw [] (10 : Int32) p2  h0 n0 Z0 hp2) hZ (own_w hw 101 rfl) (own_w hw 100 rfl) (by decide) (by decide)) (g := (mkF m 49 #[.val (.ref a1), .val (.int p2), .val (.int (0 : Int32)), .unset] [(.int p2), (.int (10 : Int32)), (.ref a1)])) rfl (by rw [hml]; rfl) (argsL := [(.int (10 : Int32)), (.int p2)]) (rest := [(.ref a1)]) (lenOf pd_15_11 rfl) rfl (Nat.le_of_eq rfl) (hb hby d15_49) (fun _ _ => ⟨rfl, e5, (by decide : 0 + 0 ≤ _), (by decide : 0 + 0 ≤ _)⟩)
  dsimp only [Pt.U, Pt.locs, Pt.cells, Pt.slots] at X6 l6 y6 z6 st6 hQ6
  subst l6 y6 z6
  obtain ⟨rfl, N6q, K6⟩ := hQ6
  have N6 := Fr.app N0 N6q
  obtain ⟨T7, h7, k7, X7, e7, E7, A7, Ea7, O7, st7⟩ := newRE X6 hx hZ hown (own_w hw 102 rfl) (own_w hw 103 rfl) K6 (g := (mkF m 52 #[.val (.ref a1), .val (.int p2), .val (.int (0 : Int32)), .unset] [(.int (10 : Int32)), (.ref a1)])) rfl (hb hby d15_52) rfl (by decide) (cap := 10) (by decide) (by decide) (by decide) (by decide) (ad := "[Ljava/lang/Object;") (by decide)
  obtain ⟨b7, g7⟩ : ∃ z, z = h0.size := ⟨_, rfl⟩
  rw [← g7] at A7 Ea7 st7
  have V_b7 := Arv.new A7 (by decide)
  have g_b7 : n0 ≤ b7 := Nat.le_trans Z0 (Nat.le_of_eq g7.symm)
  have sz_b7 : h0.size ≤ b7 := (Nat.le_trans (Keep.refl h0 [a1]).1 (Nat.le_of_eq g7.symm))
  have K7 : Keep h0 h7 [a1] := (Keep.refl h0 [a1]).ext E7
  obtain ⟨T8, h8, X8, e8, W8, st8⟩ := putF X7 hx hZ hown (host := "") (Or.inl (own_w hw 48 rfl)) Via.refl e7 (Fe_a1.ext E7) (E_a1.ext E7) (Or.inl (own_w hw 49 rfl)) (own_w hw 27 rfl) (ty := (.array (.object "java/lang/Object"))) (by decide) rfl rfl (g := (mkF m 56 #[.val (.ref a1), .val (.int p2), .val (.int (0 : Int32)), .unset] [(.ref b7), (.ref a1), (.ref b7)])) rfl rfl (hb hby d15_56)
  have Fw8 := (Fe_a1.ext E7).same W8
  have K8 : Keep h0 h8 [a1] := K7.wr W8 (Or.inl (List.mem_of_getElem? (i := 0) rfl))
  have N8 := Fr.snoc X8 N6 g_a1
  obtain ⟨fs, hr, hrun, hended, hW, hsame⟩ := X8.leave (v := some (.ref b7)) (fun h => by rw [Bd.returns] at h; cases h)
  refine ⟨_, _, pre0 _ ?_, hrun, hended, _, _, rfl, ?_, ⟨_, rfl⟩, hW, hsame.mono (by decide) (by decide)⟩
  · show Steps _ _ _ (s₁.setTop (mkF m 0 #[.val (.ref a1), .val (.int p2), .unset, .unset] [])) _
    refine XS.aloadN X0.here hx rfl (hb hby d15_0) rfl rfl ?_
    show Steps _ _ _ (s₁.setTop (mkF m 1 #[.val (.ref a1), .val (.int p2), .unset, .unset] [(.ref a1)])) _
    refine st3 _ ?_
    show Steps _ _ _ (T3.setTop (mkF m 4 #[.val (.ref a1), .val (.int p2), .unset, .unset] [(.ref wD)])) _
    refine X3.arraylength hx (by rw [e3]; exact Ar_wD.1) (State.isArrayOf_alike hZ.alike Ar_wD.2.1) (g := (mkF m 4 #[.val (.ref a1), .val (.int p2), .unset, .unset] [(.ref wD)])) rfl rfl (hb hby d15_4) _ ?_
    rw [len_of S_wD N_wD]
    show Steps _ _ _ (T3.setTop (mkF m 5 #[.val (.ref a1), .val (.int p2), .unset, .unset] [(.int (0 : Int32))])) _
    refine XS.istoreN X3.here hx rfl (hb hby d15_5) rfl (l' := #[.val (.ref a1), .val (.int p2), .val (.int (0 : Int32)), .unset]) rfl ?_
    refine XS.iloadN X3.here hx rfl (hb hby d15_6) rfl ?_
    refine XS.ifNo X3.here hx rfl (hb hby d15_7) rfl ((if0 _ _).trans (flt (by decide : ¬ ((0 : Int32) < (0 : Int32)))).2.2.1) ?_
    refine XS.aloadN X3.here hx rfl (hb hby d15_10) rfl rfl ?_
    show Steps _ _ _ (T3.setTop (mkF m 11 #[.val (.ref a1), .val (.int p2), .val (.int (0 : Int32)), .unset] [(.ref a1)])) _
    refine st4 _ ?_
    show Steps _ _ _ (T4.setTop (mkF m 14 #[.val (.ref a1), .val (.int p2), .val (.int (0 : Int32)), .unset] [(.ref wD)])) _
    refine st5 _ ?_
    show Steps _ _ _ (T5.setTop (mkF m 17 #[.val (.ref a1), .val (.int p2), .val (.int (0 : Int32)), .unset] [(.ref wD), (.ref wD)])) _
    refine Jvm.RoadKit.acmp (g := (mkF m 17 #[.val (.ref a1), .val (.int p2), .val (.int (0 : Int32)), .unset] [(.ref wD), (.ref wD)])) X5 hx rfl rfl rfl (pc0 := 17) (pc' := 45) (same := true) rfl (hb hby d15_17) rfl (decide_eq_true rfl) (by decide) (by decide) ?_
    show Steps _ _ _ (T5.setTop (mkF m 45 #[.val (.ref a1), .val (.int p2), .val (.int (0 : Int32)), .unset] [])) _
    refine XS.aloadN X5.here hx rfl (hb hby d15_45) rfl rfl ?_
    refine XS.bipush X5.here hx rfl (hb hby d15_46) ?_
    refine XS.iloadN X5.here hx rfl (hb hby d15_48) rfl ?_
    show Steps _ _ _ (T5.setTop (mkF m 49 #[.val (.ref a1), .val (.int p2), .val (.int (0 : Int32)), .unset] [(.int p2), (.int (10 : Int32)), (.ref a1)])) _
    refine st6 _ ?_
    show Steps _ _ _ (T6.setTop (mkF m 52 #[.val (.ref a1), .val (.int p2), .val (.int (0 : Int32)), .unset] [(.int (10 : Int32)), (.ref a1)])) _
    refine st7 _ ?_
    show Steps _ _ _ (T7.setTop (mkF m 55 #[.val (.ref a1), .val (.int p2), .val (.int (0 : Int32)), .unset] [(.ref b7), (.ref a1)])) _
    refine XS.dupX1 X7.here hx rfl (hb hby d15_55) rfl rfl rfl ?_
    show Steps _ _ _ (T7.setTop (mkF m 56 #[.val (.ref a1), .val (.int p2), .val (.int (0 : Int32)), .unset] [(.ref b7), (.ref a1), (.ref b7)])) _
    refine st8 _ ?_
    show Steps _ _ _ (T8.setTop (mkF m 59 #[.val (.ref a1), .val (.int p2), .val (.int (0 : Int32)), .unset] [(.ref b7)])) _
    jvm_step X8.here [X8.here.top, hx, (hb hby d15_59), X8.method', Bd.returns, Value.isRef, FieldType.isReference]
    first | (intro acts; rw [hr _ acts rfl rfl rfl]) | rw [hr _ _ rfl rfl rfl]
    exact Steps.refl _
  · show Q_growI Z a1 p2 wD ps um cl_wD h0 n0 _ T8.heap _
    rw [e8]
    exact ⟨_, _, rfl, N8, K8, ((E_a1.ext E7).wr W8), Fw8, ((Fs_a1.ext E7).other W8 (Or.inr (slot_ne (Or.inl (own_w hw 82 rfl)) (Or.inl (own_w hw 49 rfl)) (by decide) (t := .int) (t' := (.array (.object "java/lang/Object"))) (by decide) (by decide)))), ((Fm_a1.ext E7).other W8 (Or.inr (slot_ne (Or.inl (own_w hw 46 rfl)) (Or.inl (own_w hw 49 rfl)) (by decide) (t := .int) (t' := (.array (.object "java/lang/Object"))) (by decide) (by decide)))), ((V_b7.other W8 (Ne.symm (Nat.ne_of_lt (Nat.lt_of_lt_of_le E_a1.lt (Nat.le_of_eq g7.symm)))))).pad (pad_rep [] .null 10), O7, g_b7, sz_b7, Ea7.wr W8⟩
theorem d14_0 : decode jdk_38_method_7_code 0 = .ok (.aload_n 0, 1) := by decide +kernel
theorem d14_1 : decode jdk_38_method_7_code 1 = .ok (.aload_n 0, 1) := by decide +kernel
theorem d14_2 : decode jdk_38_method_7_code 2 = .ok (.getfield 48, 3) := by decide +kernel
theorem d14_5 : decode jdk_38_method_7_code 5 = .ok (.iconst 1, 1) := by decide +kernel
theorem d14_6 : decode jdk_38_method_7_code 6 = .ok (.iadd, 1) := by decide +kernel
theorem d14_7 : decode jdk_38_method_7_code 7 = .ok (.invokevirtual 69, 3) := by decide +kernel
theorem d14_10 : decode jdk_38_method_7_code 10 = .ok (.areturn, 1) := by decide +kernel
theorem pn_14 : plainName "java/util/ArrayList" = true := by first | (simp [plainName, overriddenIn]; done) | decide +kernel
theorem pd_14_10 : parseMethodDescriptor "(I)[Ljava/lang/Object;" = some ⟨[.int], some (.array (.object "java/lang/Object"))⟩ := by decide +kernel
theorem ef_14 (m : MethodId) (x0 : Addr) : entryFrame m #[(.ref x0)] 1 = mkF m 0 #[.val (.ref x0)] [] := by first | (simp [entryFrame, mkF, argsToLocals, Value.category]; done) | rfl
def Q_grow (Z : State) (a1 : Addr) (wD : Addr) (ps : Int32) (um : Value) (cl_wD : Cell) (h0 : Heap) (n0 : Nat) (v : Option Value) (h : Heap) (L : List Loc) : Prop := ∃ b kA, v = some (.ref b) ∧ Fr n0 L ∧ Keep h0 h [a1] ∧ Exa Z h a1 "java/util/ArrayList" ∧ Fld Z h a1 "java/util/ArrayList" "elementData" "[Ljava/lang/Object;" (.ref b) ∧ Fld Z h a1 "java/util/ArrayList" "size" "I" (.int ps) ∧ Fld Z h a1 "java/util/AbstractList" "modCount" "I" um ∧ Arv Z h b kA (.object "java/lang/Object") (10 : Int32) (List.replicate 10 .null) .null ∧ Ovr Z kA "java/lang/Object" ∧ n0 ≤ b ∧ h0.size ≤ b ∧ Exa Z h b "[Ljava/lang/Object;"
theorem rm_grow (l : Launch) (Z : State) (a0 : Array Value) (hw : ∀ d ∈ tables_1, d.before a0 Z = true) (ws : List Jvm.Cond) (a1 : Addr) (wD : Addr) (ps : Int32) (um : Value) (cl_wD : Cell) (h0 : Heap) (n0 : Nat) (Z0 : n0 ≤ h0.size) (Ol : Old Z n0 h0) (S_DEFAULTCAPACITY_EMPTY_ELEMENTDATA : Sta Z Z.heap "java/util/ArrayList" "DEFAULTCAPACITY_EMPTY_ELEMENTDATA" "[Ljava/lang/Object;" (.ref wD)) (E_a1 : Exa Z h0 a1 "java/util/ArrayList") (Fe_a1 : Fld Z h0 a1 "java/util/ArrayList" "elementData" "[Ljava/lang/Object;" (.ref wD)) (Fs_a1 : Fld Z h0 a1 "java/util/ArrayList" "size" "I" (.int ps)) (Fm_a1 : Fld Z h0 a1 "java/util/AbstractList" "modCount" "I" um) (Ar_wD : Arr Z h0 wD cl_wD (.object "java/lang/Object")) (S_wD : cl_wD.slots.size = (0 : Int32).toNatClampNeg) (g_a1 : n0 ≤ a1) (hp2 : ¬ ((10 : Int32) < (ps + (1 : Int32)))) :
    MetFree l own_y41 (head1 (Jvm.Cond.code own_y41 jdk_38_method_7_code 1 (some (.array (.object "java/lang/Object"))) :: ws) own_r11) (fun a U => a = #[(.ref a1)] ∧ Z.Warmed39 U.vm ∧ U.heap = h0) (fun _ _ _ _ _ => True) (fun _ U o U' => ∃ v L, o = .returned v ∧ Q_grow Z a1 wD ps um cl_wD h0 n0 v U'.heap L ∧ FrameEnd U o U' L own_r11.cells own_r11.slots) := by
  refine MetFree.of_bodySF (plainFor_of_name pn_14) hisR ?_
  intro p e s m args below meth c s₁ Bd hml0 hP hK
  obtain ⟨rfl, hZ, hh⟩ := hP
  have hx := Bd.exec
  have hby := Bd.bytes
  have hml : c.maxLocals = 1 := hml0
  have hown : s.vm.findClass "java/util/ArrayList" = some m.cls := findClass_of_methodNamed Bd.named
  have hnm := (name_of_methodNamed Bd.named Bd.method).1
  have X0 : Stand p l e own_r11 s m #[(.ref a1)] below meth c s₁ [] 0 0 := Stand.of_body Bd
  have e0 : s₁.heap = h0 := by rw [← hh, Bd.state]; rfl
  have N0 := Fr.nil n0
  have pre0 : ∀ t, Steps p.tables e below (s₁.setTop (mkF m 0 #[.val (.ref a1)] [])) t → Steps p.tables e below (s₁.setTop (entryFrame m #[(.ref a1)] 1)) t := fun t k => castTop (ef_14 m a1) k
  obtain ⟨T2, X2, e2, st2⟩ := getF X0 hx hZ hown (host := "") (Or.inl (own_w hw 81 rfl)) Via.refl e0 Fs_a1 (g := (mkF m 2 #[.val (.ref a1)] [(.ref a1), (.ref a1)])) rfl rfl (hb hby d14_2)
  obtain ⟨cq3, q3, q3'⟩ := E_a1.cell
  obtain ⟨_, _, ⟨T3, L3, k3, n3⟩, -, X3, ⟨Lc3, hQ3, l3, y3, z3⟩, st3⟩ := X2.privateBack hx (y := own_y40) hown (mvT hZ (own_w hw 93 rfl)) (mvT hZ (own_w hw 94 rfl)) (mvT hZ (own_w hw 96 rfl)) (Cond.privateMethod_at (mvP hZ (own_w hw 95 rfl) (args := #[]))) (mvT hZ (own_w hw 97 rfl)) (by decide) (backOf (W := 0) (rm_growI l Z a0 hw [] a1 (ps + (1 : Int32)) wD ps um cl_wD h0 n0 Z0 Ol S_DEFAULTCAPACITY_EMPTY_ELEMENTDATA E_a1 Fe_a1 Fs_a1 Fm_a1 Ar_wD S_wD g_a1 hp2) hZ (own_w hw 97 rfl) (own_w hw 28 rfl) (by decide) (by decide)) (g := (mkF m 7 #[.val (.ref a1)] [(.int (ps + (1 : Int32))), (.ref a1)])) rfl (by rw [hml]; rfl) (Steps.refl _) (a := a1) (by rw [e2]; exact q3) q3' (argsL := [(.int (ps + (1 : Int32)))]) (rest := []) (lenOf pd_14_10 rfl) rfl (Nat.le_of_eq rfl) (hb hby d14_7) (fun _ _ => ⟨rfl, e2, (by decide : 0 + 1 ≤ _), (by decide : 0 + 10 ≤ _)⟩)
  dsimp only [Pt.U, Pt.locs, Pt.cells, Pt.slots] at X3 l3 y3 z3 st3 hQ3
  subst l3 y3 z3
  obtain ⟨bG, kG, rfl, N3q, Kg, Eg, Fge, Fgs, Fgm, Vg, Og, gg, szg, Eag⟩ := hQ3
  have N3 := Fr.app N0 N3q
  obtain ⟨fs, hr, hrun, hended, hW, hsame⟩ := X3.leave (v := some (.ref bG)) (fun h => by rw [Bd.returns] at h; cases h)
  refine ⟨_, _, pre0 _ ?_, hrun, hended, _, _, rfl, ?_, ⟨_, rfl⟩, hW, hsame.mono (by decide) (by decide)⟩
  · show Steps _ _ _ (s₁.setTop (mkF m 0 #[.val (.ref a1)] [])) _
    refine XS.aloadN X0.here hx rfl (hb hby d14_0) rfl rfl ?_
    refine XS.aloadN X0.here hx rfl (hb hby d14_1) rfl rfl ?_
    show Steps _ _ _ (s₁.setTop (mkF m 2 #[.val (.ref a1)] [(.ref a1), (.ref a1)])) _
    refine st2 _ ?_
    show Steps _ _ _ (T2.setTop (mkF m 5 #[.val (.ref a1)] [(.int ps), (.ref a1)])) _
    refine XS.iconst X2.here hx rfl (hb hby d14_5) ?_
    refine XS.iadd X2.here hx rfl (hb hby d14_6) rfl ?_
    show Steps _ _ _ (T2.setTop (mkF m 7 #[.val (.ref a1)] [(.int (ps + (1 : Int32))), (.ref a1)])) _
    refine st3.trans ?_
    show Steps _ _ _ (T3.setTop (mkF m 10 #[.val (.ref a1)] [(.ref bG)])) _
    jvm_step X3.here [X3.here.top, hx, (hb hby d14_10), X3.method', Bd.returns, Value.isRef, FieldType.isReference]
    first | (intro acts; rw [hr _ acts rfl rfl rfl]) | rw [hr _ _ rfl rfl rfl]
    exact Steps.refl _
  · show Q_grow Z a1 wD ps um cl_wD h0 n0 _ T3.heap _
    exact ⟨bG, kG, rfl, N3, Kg, Eg, Fge, Fgs, Fgm, Vg, Og, gg, szg, Eag⟩
theorem own_insK {Z : State} {h h' : Heap} {a : Addr} {C : String} {b : Bool} {ws : List Addr} (F : Ins Z h a C b) (K : Keep h h' ws) : Ins Z h' a C b := by
  obtain ⟨cell, cT, h1, h2, h3⟩ := F
  obtain ⟨c', q, r1, r2, -⟩ := K.2.2 a cell h1
  exact ⟨c', cT, q, h2, by rw [r1, r2]; exact h3⟩
theorem own_rep {p : Int32} (h0 : ¬ p < 0) (h10 : p < 10) : p.toNatClampNeg < 10 := by
  rw [Int32.lt_iff_toInt_lt] at h0 h10
  have e0 : (0 : Int32).toInt = 0 := rfl
  have e1 : (10 : Int32).toInt = 10 := by decide
  simp only [Int32.toNatClampNeg]; omega
theorem d13_0 : decode jdk_38_method_24_code 0 = .ok (.iload_n 3, 1) := by decide +kernel
theorem d13_1 : decode jdk_38_method_24_code 1 = .ok (.aload_n 2, 1) := by decide +kernel
theorem d13_2 : decode jdk_38_method_24_code 2 = .ok (.arraylength, 1) := by decide +kernel
theorem d13_3 : decode jdk_38_method_24_code 3 = .ok (.if_icmp .ne 8, 3) := by decide +kernel
theorem d13_6 : decode jdk_38_method_24_code 6 = .ok (.aload_n 0, 1) := by decide +kernel
theorem d13_7 : decode jdk_38_method_24_code 7 = .ok (.invokevirtual 129, 3) := by decide +kernel
theorem d13_10 : decode jdk_38_method_24_code 10 = .ok (.astore_n 2, 1) := by decide +kernel
theorem d13_11 : decode jdk_38_method_24_code 11 = .ok (.aload_n 2, 1) := by decide +kernel
theorem d13_12 : decode jdk_38_method_24_code 12 = .ok (.iload_n 3, 1) := by decide +kernel
theorem d13_13 : decode jdk_38_method_24_code 13 = .ok (.aload_n 1, 1) := by decide +kernel
theorem d13_14 : decode jdk_38_method_24_code 14 = .ok (.aastore, 1) := by decide +kernel
theorem d13_15 : decode jdk_38_method_24_code 15 = .ok (.aload_n 0, 1) := by decide +kernel
theorem d13_16 : decode jdk_38_method_24_code 16 = .ok (.iload_n 3, 1) := by decide +kernel
theorem d13_17 : decode jdk_38_method_24_code 17 = .ok (.iconst 1, 1) := by decide +kernel
theorem d13_18 : decode jdk_38_method_24_code 18 = .ok (.iadd, 1) := by decide +kernel
theorem d13_19 : decode jdk_38_method_24_code 19 = .ok (.putfield 48, 3) := by decide +kernel
theorem d13_22 : decode jdk_38_method_24_code 22 = .ok (.return_, 1) := by decide +kernel
theorem pn_13 : plainName "java/util/ArrayList" = true := by first | (simp [plainName, overriddenIn]; done) | decide +kernel
theorem pd_13_9 : parseMethodDescriptor "()[Ljava/lang/Object;" = some ⟨[], some (.array (.object "java/lang/Object"))⟩ := by decide +kernel
theorem ef_13 (m : MethodId) (x0 : Addr) (x1 : Addr) (x2 : Addr) (x3 : Int32) : entryFrame m #[(.ref x0), (.ref x1), (.ref x2), (.int x3)] 4 = mkF m 0 #[.val (.ref x0), .val (.ref x1), .val (.ref x2), .val (.int x3)] [] := by first | (simp [entryFrame, mkF, argsToLocals, Value.category]; done) | rfl
def Q_add3a (Z : State) (a1 : Addr) (a2 : Addr) (a3 : Addr) (p4 : Int32) (um : Value) (cl_wD : Cell) (h0 : Heap) (n0 : Nat) (v : Option Value) (h : Heap) (L : List Loc) : Prop := ∃ b kA, v = none ∧ Fr n0 L ∧ Keep h0 h [a1] ∧ Exa Z h a1 "java/util/ArrayList" ∧ Fld Z h a1 "java/util/ArrayList" "elementData" "[Ljava/lang/Object;" (.ref b) ∧ Fld Z h a1 "java/util/ArrayList" "size" "I" (.int (p4 + (1 : Int32))) ∧ Fld Z h a1 "java/util/AbstractList" "modCount" "I" um ∧ Arv Z h b kA (.object "java/lang/Object") (10 : Int32) ((List.replicate 10 Value.null).set p4.toNatClampNeg (.ref a2)) .null ∧ Ovr Z kA "java/lang/Object" ∧ n0 ≤ b ∧ h0.size ≤ b ∧ Exa Z h b "[Ljava/lang/Object;"
theorem rm_add3a (l : Launch) (Z : State) (a0 : Array Value) (hw : ∀ d ∈ tables_1, d.before a0 Z = true) (ws : List Jvm.Cond) (a1 : Addr) (a2 : Addr) (a3 : Addr) (p4 : Int32) (um : Value) (cl_wD : Cell) (h0 : Heap) (n0 : Nat) (Z0 : n0 ≤ h0.size) (Ol : Old Z n0 h0) (S_DEFAULTCAPACITY_EMPTY_ELEMENTDATA : Sta Z Z.heap "java/util/ArrayList" "DEFAULTCAPACITY_EMPTY_ELEMENTDATA" "[Ljava/lang/Object;" (.ref a3)) (E_a1 : Exa Z h0 a1 "java/util/ArrayList") (Fe_a1 : Fld Z h0 a1 "java/util/ArrayList" "elementData" "[Ljava/lang/Object;" (.ref a3)) (Fs_a1 : Fld Z h0 a1 "java/util/ArrayList" "size" "I" (.int p4)) (Fm_a1 : Fld Z h0 a1 "java/util/AbstractList" "modCount" "I" um) (Ar_a3 : Arr Z h0 a3 cl_wD (.object "java/lang/Object")) (S_a3 : cl_wD.slots.size = (0 : Int32).toNatClampNeg) (g_a1 : n0 ≤ a1) (hp2 : ¬ ((10 : Int32) < (p4 + (1 : Int32)))) (I_a2 : Ins Z h0 a2 "java/lang/Object" true) (hp0 : ¬ p4 < 0) (hp10 : p4 < 10) (hc3 : p4 = (0 : Int32)) :
    MetFree l own_y20 (head1 (Jvm.Cond.code own_y20 jdk_38_method_24_code 4 none :: ws) own_r12) (fun a U => a = #[(.ref a1), (.ref a2), (.ref a3), (.int p4)] ∧ Z.Warmed39 U.vm ∧ U.heap = h0) (fun _ _ _ _ _ => True) (fun _ U o U' => ∃ v L, o = .returned v ∧ Q_add3a Z a1 a2 a3 p4 um cl_wD h0 n0 v U'.heap L ∧ FrameEnd U o U' L own_r12.cells own_r12.slots) := by
  refine MetFree.of_bodySF (plainFor_of_name pn_13) hisR ?_
  intro p e s m args below meth c s₁ Bd hml0 hP hK
  obtain ⟨rfl, hZ, hh⟩ := hP
  have hx := Bd.exec
  have hby := Bd.bytes
  have hml : c.maxLocals = 4 := hml0
  have hown : s.vm.findClass "java/util/ArrayList" = some m.cls := findClass_of_methodNamed Bd.named
  have hnm := (name_of_methodNamed Bd.named Bd.method).1
  have X0 : Stand p l e own_r12 s m #[(.ref a1), (.ref a2), (.ref a3), (.int p4)] below meth c s₁ [] 0 0 := Stand.of_body Bd
  have e0 : s₁.heap = h0 := by rw [← hh, Bd.state]; rfl
  have N0 := Fr.nil n0
  have pre0 : ∀ t, Steps p.tables e below (s₁.setTop (mkF m 0 #[.val (.ref a1), .val (.ref a2), .val (.ref a3), .val (.int p4)] [])) t → Steps p.tables e below (s₁.setTop (entryFrame m #[(.ref a1), (.ref a2), (.ref a3), (.int p4)] 4)) t := fun t k => castTop (ef_13 m a1 a2 a3 p4) k
  have N_a3 : ¬ (0 : Int32) < 0 := by decide
  obtain ⟨cq5, q5, q5'⟩ := E_a1.cell
  obtain ⟨_, _, ⟨T5, L5, k5, n5⟩, -, X5, ⟨Lc5, hQ5, l5, y5, z5⟩, st5⟩ := X0.privateBack hx (y := own_y41) hown (mvT hZ (own_w hw 88 rfl)) (mvT hZ (own_w hw 89 rfl)) (mvT hZ (own_w hw 91 rfl)) (Cond.privateMethod_at (mvP hZ (own_w hw 90 rfl) (args := #[]))) (mvT hZ (own_w hw 92 rfl)) (by decide) (backOf (W := 0) (rm_grow l Z a0 hw [] a1 a3 p4 um cl_wD h0 n0 Z0 Ol S_DEFAULTCAPACITY_EMPTY_ELEMENTDATA E_a1 Fe_a1 Fs_a1 Fm_a1 Ar_a3 S_a3 g_a1 hp2) hZ (own_w hw 92 rfl) (own_w hw 28 rfl) (by decide) (by decide)) (g := (mkF m 7 #[.val (.ref a1), .val (.ref a2), .val (.ref a3), .val (.int p4)] [(.ref a1)])) rfl (by rw [hml]; rfl) (Steps.refl _) (a := a1) (by rw [e0]; exact q5) q5' (argsL := []) (rest := []) (lenOf pd_13_9 rfl) rfl (Nat.le_of_eq rfl) (hb hby d13_7) (fun _ _ => ⟨rfl, e0, (by decide : 0 + 1 ≤ _), (by decide : 0 + 10 ≤ _)⟩)
  dsimp only [Pt.U, Pt.locs, Pt.cells, Pt.slots] at X5 l5 y5 z5 st5 hQ5
  subst l5 y5 z5
  obtain ⟨bG, kG, rfl, N5q, Kg, Eg_a1, Feg_a1, Fsg_a1, Fmg_a1, Vg, Og, gg, szg, Eag⟩ := hQ5
  have N5 := Fr.app N0 N5q
  have Kc5 : Keep h0 T5.heap [a1] := (Keep.refl h0 [a1]).trans Kg (allS (Or.inl (List.mem_of_getElem? (i := 0) rfl)) all0)
  have hne : a1 ≠ bG := Nat.ne_of_lt (Nat.lt_of_lt_of_le E_a1.lt szg)
  obtain ⟨clG, ArG, qG, SG, NG, HG, GG⟩ := Vg
  have hin14 : ¬ (p4 < 0 ∨ clG.slots.size ≤ p4.toNatClampNeg) := inb_of SG ⟨hp0, hp10⟩
  have StoG : Sto Z T5.heap bG (.ref a2) := Sto.ofV ArG qG Og (own_insK I_a2 Kg)
  obtain ⟨T6, h6, X6, e6, W6, st6⟩ := stR X5 hx hZ rfl ArG (j := p4) hin14 rfl StoG (g := (mkF m 14 #[.val (.ref a1), .val (.ref a2), .val (.ref bG), .val (.int p4)] [(.ref a2), (.int p4), (.ref bG)])) rfl rfl (hb hby d13_14)
  have V6 := Arv.set ArG qG SG NG HG GG (v := .ref a2) rfl W6 p4.toNatClampNeg rfl (by rw [List.length_replicate]; exact own_rep hp0 hp10)
  have N6 := Fr.snoc X6 N5 gg
  have Kw6 := Keep.of_wr W6
  have Kc6 : Keep h0 h6 [a1] := Kc5.trans Kw6 (allS (Or.inr szg) all0)
  obtain ⟨T7, h7, X7, e7, W7, st7⟩ := putF X6 hx hZ hown (host := "") (Or.inl (own_w hw 81 rfl)) Via.refl e6 (Fsg_a1.keep Kw6 (ninS hne nin0)) (Eg_a1.keep Kw6) (Or.inl (own_w hw 82 rfl)) (own_w hw 27 rfl) (ty := .int) (by decide) rfl rfl (g := (mkF m 19 #[.val (.ref a1), .val (.ref a2), .val (.ref bG), .val (.int p4)] [(.int (p4 + (1 : Int32))), (.ref a1)])) rfl rfl (hb hby d13_19)
  have Fw7 := (Fsg_a1.keep Kw6 (ninS hne nin0)).same W7
  have K7 : Keep h0 h7 [a1] := Kc6.wr W7 (Or.inl (List.mem_of_getElem? (i := 0) rfl))
  have N7 := Fr.snoc X7 N6 g_a1
  obtain ⟨fs, hr, hrun, hended, hW, hsame⟩ := X7.leave (v := none) (fun _ => rfl)
  refine ⟨_, _, pre0 _ ?_, hrun, hended, _, _, rfl, ?_, ⟨_, rfl⟩, hW, hsame.mono (by decide) (by decide)⟩
  · show Steps _ _ _ (s₁.setTop (mkF m 0 #[.val (.ref a1), .val (.ref a2), .val (.ref a3), .val (.int p4)] [])) _
    refine XS.iloadN X0.here hx rfl (hb hby d13_0) rfl ?_
    refine XS.aloadN X0.here hx rfl (hb hby d13_1) rfl rfl ?_
    show Steps _ _ _ (s₁.setTop (mkF m 2 #[.val (.ref a1), .val (.ref a2), .val (.ref a3), .val (.int p4)] [(.ref a3), (.int p4)])) _
    refine X0.arraylength hx (by rw [e0]; exact Ar_a3.1) (State.isArrayOf_alike hZ.alike Ar_a3.2.1) (g := (mkF m 2 #[.val (.ref a1), .val (.ref a2), .val (.ref a3), .val (.int p4)] [(.ref a3), (.int p4)])) rfl rfl (hb hby d13_2) _ ?_
    rw [len_of S_a3 N_a3]
    show Steps _ _ _ (s₁.setTop (mkF m 3 #[.val (.ref a1), .val (.ref a2), .val (.ref a3), .val (.int p4)] [(.int (0 : Int32)), (.int p4)])) _
    refine XS.icmpNo X0.here hx rfl (hb hby d13_3) rfl (teq hc3).2 ?_
    refine XS.aloadN X0.here hx rfl (hb hby d13_6) rfl rfl ?_
    show Steps _ _ _ (s₁.setTop (mkF m 7 #[.val (.ref a1), .val (.ref a2), .val (.ref a3), .val (.int p4)] [(.ref a1)])) _
    refine st5.trans ?_
    show Steps _ _ _ (T5.setTop (mkF m 10 #[.val (.ref a1), .val (.ref a2), .val (.ref a3), .val (.int p4)] [(.ref bG)])) _
    refine XS.astoreN X5.here hx rfl (hb hby d13_10) rfl rfl (l' := #[.val (.ref a1), .val (.ref a2), .val (.ref bG), .val (.int p4)]) rfl ?_
    refine XS.aloadN X5.here hx rfl (hb hby d13_11) rfl rfl ?_
    refine XS.iloadN X5.here hx rfl (hb hby d13_12) rfl ?_
    refine XS.aloadN X5.here hx rfl (hb hby d13_13) rfl rfl ?_
    show Steps _ _ _ (T5.setTop (mkF m 14 #[.val (.ref a1), .val (.ref a2), .val (.ref bG), .val (.int p4)] [(.ref a2), (.int p4), (.ref bG)])) _
    refine st6 _ ?_
    show Steps _ _ _ (T6.setTop (mkF m 15 #[.val (.ref a1), .val (.ref a2), .val (.ref bG), .val (.int p4)] [])) _
    refine XS.aloadN X6.here hx rfl (hb hby d13_15) rfl rfl ?_
    refine XS.iloadN X6.here hx rfl (hb hby d13_16) rfl ?_
    refine XS.iconst X6.here hx rfl (hb hby d13_17) ?_
    refine XS.iadd X6.here hx rfl (hb hby d13_18) rfl ?_
    show Steps _ _ _ (T6.setTop (mkF m 19 #[.val (.ref a1), .val (.ref a2), .val (.ref bG), .val (.int p4)] [(.int (p4 + (1 : Int32))), (.ref a1)])) _
    refine st7 _ ?_
    show Steps _ _ _ (T7.setTop (mkF m 22 #[.val (.ref a1), .val (.ref a2), .val (.ref bG), .val (.int p4)] [])) _
    exact X7.returnOut hx Bd.returns (hb hby d13_22) hr
  · show Q_add3a Z a1 a2 a3 p4 um cl_wD h0 n0 _ T7.heap _
    rw [e7]
    exact ⟨bG, kG, rfl, N7, K7, ((Eg_a1.keep Kw6).wr W7), ((Feg_a1.keep Kw6 (ninS hne nin0)).other W7 (Or.inr (slot_ne (Or.inl (own_w hw 49 rfl)) (Or.inl (own_w hw 82 rfl)) (by decide) (t := (.array (.object "java/lang/Object"))) (t' := .int) (by decide) (by decide)))), Fw7, ((Fmg_a1.keep Kw6 (ninS hne nin0)).other W7 (Or.inr (slot_ne (Or.inl (own_w hw 46 rfl)) (Or.inl (own_w hw 82 rfl)) (by decide) (t := .int) (t' := .int) (by decide) (by decide)))), V6.other W7 hne.symm, Og, gg, szg, (Eag.wr W6).wr W7⟩
def Q_add3b (Z : State) (a1 : Addr) (a2 : Addr) (a3 : Addr) (p4 : Int32) (um : Value) (kA : ClassId) (vs : List Value) (h0 : Heap) (n0 : Nat) (v : Option Value) (h : Heap) (L : List Loc) : Prop := v = none ∧ Fr n0 L ∧ Keep h0 h [a1, a3] ∧ Exa Z h a1 "java/util/ArrayList" ∧ Fld Z h a1 "java/util/ArrayList" "elementData" "[Ljava/lang/Object;" (.ref a3) ∧ Fld Z h a1 "java/util/ArrayList" "size" "I" (.int (p4 + (1 : Int32))) ∧ Fld Z h a1 "java/util/AbstractList" "modCount" "I" um ∧ Arv Z h a3 kA (.object "java/lang/Object") (10 : Int32) (vs.set p4.toNatClampNeg (.ref a2)) .null
theorem rm_add3b (l : Launch) (Z : State) (a0 : Array Value) (hw : ∀ d ∈ tables_1, d.before a0 Z = true) (ws : List Jvm.Cond) (a1 : Addr) (a2 : Addr) (a3 : Addr) (p4 : Int32) (um : Value) (kA : ClassId) (vs : List Value) (h0 : Heap) (n0 : Nat) (Z0 : n0 ≤ h0.size) (E_a1 : Exa Z h0 a1 "java/util/ArrayList") (Fe_a1 : Fld Z h0 a1 "java/util/ArrayList" "elementData" "[Ljava/lang/Object;" (.ref a3)) (Fs_a1 : Fld Z h0 a1 "java/util/ArrayList" "size" "I" (.int p4)) (Fm_a1 : Fld Z h0 a1 "java/util/AbstractList" "modCount" "I" um) (V_a3 : Arv Z h0 a3 kA (.object "java/lang/Object") (10 : Int32) vs .null) (hvs : vs.length = 10) (Og : Ovr Z kA "java/lang/Object") (gg : n0 ≤ a3) (hne : a1 ≠ a3) (g_a1 : n0 ≤ a1) (I_a2 : Ins Z h0 a2 "java/lang/Object" true) (hp0 : ¬ p4 < 0) (hp10 : p4 < 10) (hc3 : ¬ (p4 = (10 : Int32))) :
    MetFree l own_y20 (head1 (Jvm.Cond.code own_y20 jdk_38_method_24_code 4 none :: ws) own_r0) (fun a U => a = #[(.ref a1), (.ref a2), (.ref a3), (.int p4)] ∧ Z.Warmed39 U.vm ∧ U.heap = h0) (fun _ _ _ _ _ => True) (fun _ U o U' => ∃ v L, o = .returned v ∧ Q_add3b Z a1 a2 a3 p4 um kA vs h0 n0 v U'.heap L ∧ FrameEnd U o U' L own_r0.cells own_r0.slots) := by
  refine MetFree.of_bodySF (plainFor_of_name pn_13) hisR ?_
  intro p e s m args below meth c s₁ Bd hml0 hP hK
  obtain ⟨rfl, hZ, hh⟩ := hP
  have hx := Bd.exec
  have hby := Bd.bytes
  have hml : c.maxLocals = 4 := hml0
  have hown : s.vm.findClass "java/util/ArrayList" = some m.cls := findClass_of_methodNamed Bd.named
  have hnm := (name_of_methodNamed Bd.named Bd.method).1
  have X0 : Stand p l e own_r0 s m #[(.ref a1), (.ref a2), (.ref a3), (.int p4)] below meth c s₁ [] 0 0 := Stand.of_body Bd
  have e0 : s₁.heap = h0 := by rw [← hh, Bd.state]; rfl
  have N0 := Fr.nil n0
  have pre0 : ∀ t, Steps p.tables e below (s₁.setTop (mkF m 0 #[.val (.ref a1), .val (.ref a2), .val (.ref a3), .val (.int p4)] [])) t → Steps p.tables e below (s₁.setTop (entryFrame m #[(.ref a1), (.ref a2), (.ref a3), (.int p4)] 4)) t := fun t k => castTop (ef_13 m a1 a2 a3 p4) k
  obtain ⟨cl_a3, Ar_a3, -, S_a3, N_a3, -⟩ := id V_a3
  obtain ⟨clG, ArG, qG, SG, NG, HG, GG⟩ := V_a3
  have hin14 : ¬ (p4 < 0 ∨ clG.slots.size ≤ p4.toNatClampNeg) := inb_of SG ⟨hp0, hp10⟩
  have StoG : Sto Z h0 a3 (.ref a2) := Sto.ofV ArG qG Og I_a2
  obtain ⟨T5, h5, X5, e5, W5, st5⟩ := stR X0 hx hZ e0 ArG (j := p4) hin14 rfl StoG (g := (mkF m 14 #[.val (.ref a1), .val (.ref a2), .val (.ref a3), .val (.int p4)] [(.ref a2), (.int p4), (.ref a3)])) rfl rfl (hb hby d13_14)
  have V5 := Arv.set ArG qG SG NG HG GG (v := .ref a2) rfl W5 p4.toNatClampNeg rfl (by rw [hvs]; exact own_rep hp0 hp10)
  have N5 := Fr.snoc X5 N0 gg
  have Kw5 := Keep.of_wr W5
  have Kc5 : Keep h0 h5 [a1, a3] := (Keep.refl h0 [a1, a3]).trans Kw5 (allS (Or.inl (List.mem_of_getElem? (i := 1) rfl)) all0)
  obtain ⟨T6, h6, X6, e6, W6, st6⟩ := putF X5 hx hZ hown (host := "") (Or.inl (own_w hw 81 rfl)) Via.refl e5 (Fs_a1.keep Kw5 (ninS hne nin0)) (E_a1.keep Kw5) (Or.inl (own_w hw 82 rfl)) (own_w hw 27 rfl) (ty := .int) (by decide) rfl rfl (g := (mkF m 19 #[.val (.ref a1), .val (.ref a2), .val (.ref a3), .val (.int p4)] [(.int (p4 + (1 : Int32))), (.ref a1)])) rfl rfl (hb hby d13_19)
  have Fw6 := (Fs_a1.keep Kw5 (ninS hne nin0)).same W6
  have K6 : Keep h0 h6 [a1, a3] := Kc5.wr W6 (Or.inl (List.mem_of_getElem? (i := 0) rfl))
  have N6 := Fr.snoc X6 N5 g_a1
  obtain ⟨fs, hr, hrun, hended, hW, hsame⟩ := X6.leave (v := none) (fun _ => rfl)
  refine ⟨_, _, pre0 _ ?_, hrun, hended, _, _, rfl, ?_, ⟨_, rfl⟩, hW, hsame.mono (by decide) (by decide)⟩
  · show Steps _ _ _ (s₁.setTop (mkF m 0 #[.val (.ref a1), .val (.ref a2), .val (.ref a3), .val (.int p4)] [])) _
    refine XS.iloadN X0.here hx rfl (hb hby d13_0) rfl ?_
    refine XS.aloadN X0.here hx rfl (hb hby d13_1) rfl rfl ?_
    show Steps _ _ _ (s₁.setTop (mkF m 2 #[.val (.ref a1), .val (.ref a2), .val (.ref a3), .val (.int p4)] [(.ref a3), (.int p4)])) _
    refine X0.arraylength hx (by rw [e0]; exact Ar_a3.1) (State.isArrayOf_alike hZ.alike Ar_a3.2.1) (g := (mkF m 2 #[.val (.ref a1), .val (.ref a2), .val (.ref a3), .val (.int p4)] [(.ref a3), (.int p4)])) rfl rfl (hb hby d13_2) _ ?_
    rw [len_of S_a3 N_a3]
    show Steps _ _ _ (s₁.setTop (mkF m 3 #[.val (.ref a1), .val (.ref a2), .val (.ref a3), .val (.int p4)] [(.int (10 : Int32)), (.int p4)])) _
    refine XS.icmpYes X0.here hx rfl (pc0 := 3) (pc' := 11) rfl (hb hby d13_3) rfl (feq hc3).2 (by decide) (by decide) ?_
    refine XS.aloadN X0.here hx rfl (hb hby d13_11) rfl rfl ?_
    refine XS.iloadN X0.here hx rfl (hb hby d13_12) rfl ?_
    refine XS.aloadN X0.here hx rfl (hb hby d13_13) rfl rfl ?_
    show Steps _ _ _ (s₁.setTop (mkF m 14 #[.val (.ref a1), .val (.ref a2), .val (.ref a3), .val (.int p4)] [(.ref a2), (.int p4), (.ref a3)])) _
    refine st5 _ ?_
    show Steps _ _ _ (T5.setTop (mkF m 15 #[.val (.ref a1), .val (.ref a2), .val (.ref a3), .val (.int p4)] [])) _
    refine XS.aloadN X5.here hx rfl (hb hby d13_15) rfl rfl ?_
    refine XS.iloadN X5.here hx rfl (hb hby d13_16) rfl ?_
    refine XS.iconst X5.here hx rfl (hb hby d13_17) ?_
    refine XS.iadd X5.here hx rfl (hb hby d13_18) rfl ?_
    show Steps _ _ _ (T5.setTop (mkF m 19 #[.val (.ref a1), .val (.ref a2), .val (.ref a3), .val (.int p4)] [(.int (p4 + (1 : Int32))), (.ref a1)])) _
    refine st6 _ ?_
    show Steps _ _ _ (T6.setTop (mkF m 22 #[.val (.ref a1), .val (.ref a2), .val (.ref a3), .val (.int p4)] [])) _
    exact X6.returnOut hx Bd.returns (hb hby d13_22) hr
  · show Q_add3b Z a1 a2 a3 p4 um kA vs h0 n0 _ T6.heap _
    rw [e6]
    exact ⟨rfl, N6, K6, ((E_a1.keep Kw5).wr W6), ((Fe_a1.keep Kw5 (ninS hne nin0)).other W6 (Or.inr (slot_ne (Or.inl (own_w hw 49 rfl)) (Or.inl (own_w hw 82 rfl)) (by decide) (t := (.array (.object "java/lang/Object"))) (t' := .int) (by decide) (by decide)))), Fw6, ((Fm_a1.keep Kw5 (ninS hne nin0)).other W6 (Or.inr (slot_ne (Or.inl (own_w hw 46 rfl)) (Or.inl (own_w hw 82 rfl)) (by decide) (t := .int) (t' := .int) (by decide) (by decide)))), V5.other W6 hne.symm⟩
theorem d12_0 : decode jdk_38_method_25_code 0 = .ok (.aload_n 0, 1) := by decide +kernel
theorem d12_1 : decode jdk_38_method_25_code 1 = .ok (.dup, 1) := by decide +kernel
theorem d12_2 : decode jdk_38_method_25_code 2 = .ok (.getfield 63, 3) := by decide +kernel
theorem d12_5 : decode jdk_38_method_25_code 5 = .ok (.iconst 1, 1) := by decide +kernel
theorem d12_6 : decode jdk_38_method_25_code 6 = .ok (.iadd, 1) := by decide +kernel
theorem d12_7 : decode jdk_38_method_25_code 7 = .ok (.putfield 63, 3) := by decide +kernel
theorem d12_10 : decode jdk_38_method_25_code 10 = .ok (.aload_n 0, 1) := by decide +kernel
theorem d12_11 : decode jdk_38_method_25_code 11 = .ok (.aload_n 1, 1) := by decide +kernel
theorem d12_12 : decode jdk_38_method_25_code 12 = .ok (.aload_n 0, 1) := by decide +kernel
theorem d12_13 : decode jdk_38_method_25_code 13 = .ok (.getfield 9, 3) := by decide +kernel
theorem d12_16 : decode jdk_38_method_25_code 16 = .ok (.aload_n 0, 1) := by decide +kernel
theorem d12_17 : decode jdk_38_method_25_code 17 = .ok (.getfield 48, 3) := by decide +kernel
theorem d12_20 : decode jdk_38_method_25_code 20 = .ok (.invokevirtual 131, 3) := by decide +kernel
theorem d12_23 : decode jdk_38_method_25_code 23 = .ok (.iconst 1, 1) := by decide +kernel
theorem d12_24 : decode jdk_38_method_25_code 24 = .ok (.ireturn, 1) := by decide +kernel
theorem pn_12 : plainName "java/util/ArrayList" = true := by first | (simp [plainName, overriddenIn]; done) | decide +kernel
theorem pd_12_8 : parseMethodDescriptor "(Ljava/lang/Object;[Ljava/lang/Object;I)V" = some ⟨[(.object "java/lang/Object"), (.array (.object "java/lang/Object")), .int], none⟩ := by decide +kernel
theorem ef_12 (m : MethodId) (x0 : Addr) (x1 : Addr) : entryFrame m #[(.ref x0), (.ref x1)] 2 = mkF m 0 #[.val (.ref x0), .val (.ref x1)] [] := by first | (simp [entryFrame, mkF, argsToLocals, Value.category]; done) | rfl
def Q_adda (Z : State) (a1 : Addr) (a2 : Addr) (aE : Addr) (ps : Int32) (pm : Int32) (cl_wD : Cell) (h0 : Heap) (n0 : Nat) (v : Option Value) (h : Heap) (L : List Loc) : Prop := ∃ b kA, v = some (.int (1 : Int32)) ∧ Fr n0 L ∧ Keep h0 h [a1] ∧ Exa Z h a1 "java/util/ArrayList" ∧ Fld Z h a1 "java/util/ArrayList" "elementData" "[Ljava/lang/Object;" (.ref b) ∧ Fld Z h a1 "java/util/ArrayList" "size" "I" (.int (ps + (1 : Int32))) ∧ Fld Z h a1 "java/util/AbstractList" "modCount" "I" (.int (pm + (1 : Int32))) ∧ Arv Z h b kA (.object "java/lang/Object") (10 : Int32) ((List.replicate 10 Value.null).set ps.toNatClampNeg (.ref a2)) .null ∧ Ovr Z kA "java/lang/Object" ∧ n0 ≤ b ∧ h0.size ≤ b ∧ Exa Z h b "[Ljava/lang/Object;"
theorem rm_adda (l : Launch) (Z : State) (a0 : Array Value) (hw : ∀ d ∈ tables_1, d.before a0 Z = true) (ws : List Jvm.Cond) (a1 : Addr) (a2 : Addr) (aE : Addr) (ps : Int32) (pm : Int32) (cl_wD : Cell) (h0 : Heap) (n0 : Nat) (Z0 : n0 ≤ h0.size) (Ol : Old Z n0 h0) (S_DEFAULTCAPACITY_EMPTY_ELEMENTDATA : Sta Z Z.heap "java/util/ArrayList" "DEFAULTCAPACITY_EMPTY_ELEMENTDATA" "[Ljava/lang/Object;" (.ref aE)) (E_a1 : Exa Z h0 a1 "java/util/ArrayList") (Fe_a1 : Fld Z h0 a1 "java/util/ArrayList" "elementData" "[Ljava/lang/Object;" (.ref aE)) (Fs_a1 : Fld Z h0 a1 "java/util/ArrayList" "size" "I" (.int ps)) (Fm_a1 : Fld Z h0 a1 "java/util/AbstractList" "modCount" "I" (.int pm)) (Ar_aE : Arr Z h0 aE cl_wD (.object "java/lang/Object")) (S_aE : cl_wD.slots.size = (0 : Int32).toNatClampNeg) (g_a1 : n0 ≤ a1) (hp2 : ¬ ((10 : Int32) < (ps + (1 : Int32)))) (I_a2 : Ins Z h0 a2 "java/lang/Object" true) (hneD : aE ≠ a1) (hz : ps = (0 : Int32)) (hp0 : ¬ ps < 0) (hp10 : ps < 10) :
    MetFree l own_y4 (head1 (Jvm.Cond.code own_y4 jdk_38_method_25_code 2 (some .boolean) :: ws) own_r13) (fun a U => a = #[(.ref a1), (.ref a2)] ∧ Z.Warmed39 U.vm ∧ U.heap = h0) (fun _ _ _ _ _ => True) (fun _ U o U' => ∃ v L, o = .returned v ∧ Q_adda Z a1 a2 aE ps pm cl_wD h0 n0 v U'.heap L ∧ FrameEnd U o U' L own_r13.cells own_r13.slots) := by
  refine MetFree.of_bodySF (plainFor_of_name pn_12) hisR ?_
  intro p e s m args below meth c s₁ Bd hml0 hP hK
  obtain ⟨rfl, hZ, hh⟩ := hP
  have hx := Bd.exec
  have hby := Bd.bytes
  have hml : c.maxLocals = 2 := hml0
  have hown : s.vm.findClass "java/util/ArrayList" = some m.cls := findClass_of_methodNamed Bd.named
  have hnm := (name_of_methodNamed Bd.named Bd.method).1
  have X0 : Stand p l e own_r13 s m #[(.ref a1), (.ref a2)] below meth c s₁ [] 0 0 := Stand.of_body Bd
  have e0 : s₁.heap = h0 := by rw [← hh, Bd.state]; rfl
  have N0 := Fr.nil n0
  have pre0 : ∀ t, Steps p.tables e below (s₁.setTop (mkF m 0 #[.val (.ref a1), .val (.ref a2)] [])) t → Steps p.tables e below (s₁.setTop (entryFrame m #[(.ref a1), (.ref a2)] 2)) t := fun t k => castTop (ef_12 m a1 a2) k
  obtain ⟨T3, X3, e3, st3⟩ := getF X0 hx hZ hown (host := "") (Or.inl (own_w hw 79 rfl)) (Via.of (own_w hw 80 rfl)) e0 Fm_a1 (g := (mkF m 2 #[.val (.ref a1), .val (.ref a2)] [(.ref a1), (.ref a1)])) rfl rfl (hb hby d12_2)
  obtain ⟨T4, h4, X4, e4, W4, st4⟩ := putF X3 hx hZ hown (host := "") (Or.inl (own_w hw 79 rfl)) (Via.of (own_w hw 80 rfl)) e3 Fm_a1 E_a1 (Or.inl (own_w hw 46 rfl)) (own_w hw 27 rfl) (ty := .int) (by decide) rfl rfl (g := (mkF m 7 #[.val (.ref a1), .val (.ref a2)] [(.int (pm + (1 : Int32))), (.ref a1)])) rfl rfl (hb hby d12_7)
  have Fw4 := Fm_a1.same W4
  have K4 : Keep h0 h4 [a1] := (Keep.refl h0 [a1]).wr W4 (Or.inl (List.mem_of_getElem? (i := 0) rfl))
  have N4 := Fr.snoc X4 N0 g_a1
  obtain ⟨T5, X5, e5, st5⟩ := getF X4 hx hZ hown (host := "") (Or.inl (own_w hw 48 rfl)) Via.refl e4 (Fe_a1.other W4 (Or.inr (slot_ne (Or.inl (own_w hw 49 rfl)) (Or.inl (own_w hw 46 rfl)) (by decide) (t := (.array (.object "java/lang/Object"))) (t' := .int) (by decide) (by decide)))) (g := (mkF m 13 #[.val (.ref a1), .val (.ref a2)] [(.ref a1), (.ref a2), (.ref a1)])) rfl rfl (hb hby d12_13)
  obtain ⟨T6, X6, e6, st6⟩ := getF X5 hx hZ hown (host := "") (Or.inl (own_w hw 81 rfl)) Via.refl e5 (Fs_a1.other W4 (Or.inr (slot_ne (Or.inl (own_w hw 82 rfl)) (Or.inl (own_w hw 46 rfl)) (by decide) (t := .int) (t' := .int) (by decide) (by decide)))) (g := (mkF m 17 #[.val (.ref a1), .val (.ref a2)] [(.ref a1), (.ref aE), (.ref a2), (.ref a1)])) rfl rfl (hb hby d12_17)
  obtain ⟨cq7, q7, q7'⟩ := (E_a1.wr W4).cell
  obtain ⟨_, _, ⟨T7, L7, k7, n7⟩, -, X7, ⟨Lc7, hQ7, l7, y7, z7⟩, st7⟩ := X6.privateBack hx (y := own_y20) hown (mvT hZ (own_w hw 83 rfl)) (mvT hZ (own_w hw 84 rfl)) (mvT hZ (own_w hw 86 rfl)) (Cond.privateMethod_at (mvP hZ (own_w hw 85 rfl) (args := #[]))) (mvT hZ (own_w hw 87 rfl)) (by decide) (backOf (W := 0) (rm_add3a l Z a0 hw [] a1 a2 aE ps _ cl_wD h4 n0 (Nat.le_trans Z0 (Keep.of_wr W4).1) (Ol.wr W4 g_a1) S_DEFAULTCAPACITY_EMPTY_ELEMENTDATA (E_a1.wr W4) (Fe_a1.other W4 (Or.inr (slot_ne (Or.inl (own_w hw 49 rfl)) (Or.inl (own_w hw 46 rfl)) (by decide) (t := (.array (.object "java/lang/Object"))) (t' := .int) (by decide) (by decide)))) (Fs_a1.other W4 (Or.inr (slot_ne (Or.inl (own_w hw 82 rfl)) (Or.inl (own_w hw 46 rfl)) (by decide) (t := .int) (t' := .int) (by decide) (by decide)))) Fw4 (Ar_aE.other W4 hneD) S_aE g_a1 hp2 (I_a2.wr W4) hp0 hp10 hz) hZ (own_w hw 87 rfl) (own_w hw 28 rfl) (by decide) (by decide)) (g := (mkF m 20 #[.val (.ref a1), .val (.ref a2)] [(.int ps), (.ref aE), (.ref a2), (.ref a1)])) rfl (by rw [hml]; rfl) (Steps.refl _) (a := a1) (by rw [e6]; exact q7) q7' (argsL := [(.ref a2), (.ref aE), (.int ps)]) (rest := []) (lenOf pd_12_8 rfl) rfl (Nat.le_of_eq rfl) (hb hby d12_20) (fun _ _ => ⟨rfl, e6, (by decide : 0 + 1 ≤ _), (by decide : 0 + 10 ≤ _)⟩)
  dsimp only [Pt.U, Pt.locs, Pt.cells, Pt.slots] at X7 l7 y7 z7 st7 hQ7
  subst l7 y7 z7
  obtain ⟨bG, kG, rfl, N7q, Kg, Eg_a1, Feg_a1, Fsg_a1, Fmg_a1, Vg, Og, gg, szg, Eag⟩ := hQ7
  have N7 := Fr.app N4 N7q
  have Kc7 : Keep h0 T7.heap [a1] := K4.trans Kg (allS (Or.inl (List.mem_of_getElem? (i := 0) rfl)) all0)
  obtain ⟨fs, hr, hrun, hended, hW, hsame⟩ := X7.leave (v := some (.int (1 : Int32))) (fun h => by rw [Bd.returns] at h; cases h)
  refine ⟨_, _, pre0 _ ?_, hrun, hended, _, _, rfl, ?_, ⟨_, rfl⟩, hW, hsame.mono (by decide) (by decide)⟩
  · show Steps _ _ _ (s₁.setTop (mkF m 0 #[.val (.ref a1), .val (.ref a2)] [])) _
    refine XS.aloadN X0.here hx rfl (hb hby d12_0) rfl rfl ?_
    refine XS.dup X0.here hx rfl (hb hby d12_1) rfl rfl ?_
    show Steps _ _ _ (s₁.setTop (mkF m 2 #[.val (.ref a1), .val (.ref a2)] [(.ref a1), (.ref a1)])) _
    refine st3 _ ?_
    show Steps _ _ _ (T3.setTop (mkF m 5 #[.val (.ref a1), .val (.ref a2)] [(.int pm), (.ref a1)])) _
    refine XS.iconst X3.here hx rfl (hb hby d12_5) ?_
    refine XS.iadd X3.here hx rfl (hb hby d12_6) rfl ?_
    show Steps _ _ _ (T3.setTop (mkF m 7 #[.val (.ref a1), .val (.ref a2)] [(.int (pm + (1 : Int32))), (.ref a1)])) _
    refine st4 _ ?_
    show Steps _ _ _ (T4.setTop (mkF m 10 #[.val (.ref a1), .val (.ref a2)] [])) _
    refine XS.aloadN X4.here hx rfl (hb hby d12_10) rfl rfl ?_
    refine XS.aloadN X4.here hx rfl (hb hby d12_11) rfl rfl ?_
    refine XS.aloadN X4.here hx rfl (hb hby d12_12) rfl rfl ?_
    show Steps _ _ _ (T4.setTop (mkF m 13 #[.val (.ref a1), .val (.ref a2)] [(.ref a1), (.ref a2), (.ref a1)])) _
    refine st5 _ ?_
    show Steps _ _ _ (T5.setTop (mkF m 16 #[.val (.ref a1), .val (.ref a2)] [(.ref aE), (.ref a2), (.ref a1)])) _
    refine XS.aloadN X5.here hx rfl (hb hby d12_16) rfl rfl ?_
    show Steps _ _ _ (T5.setTop (mkF m 17 #[.val (.ref a1), .val (.ref a2)] [(.ref a1), (.ref aE), (.ref a2), (.ref a1)])) _
    refine st6 _ ?_
    show Steps _ _ _ (T6.setTop (mkF m 20 #[.val (.ref a1), .val (.ref a2)] [(.int ps), (.ref aE), (.ref a2), (.ref a1)])) _
    refine st7.trans ?_
    show Steps _ _ _ (T7.setTop (mkF m 23 #[.val (.ref a1), .val (.ref a2)] [])) _
    refine XS.iconst X7.here hx rfl (hb hby d12_23) ?_
    show Steps _ _ _ (T7.setTop (mkF m 24 #[.val (.ref a1), .val (.ref a2)] [(.int (1 : Int32))])) _
    exact retN X7 hx (t := .boolean) Bd.returns (by simp) (hb hby d12_24) hr
  · show Q_adda Z a1 a2 aE ps pm cl_wD h0 n0 _ T7.heap _
    exact ⟨bG, kG, rfl, N7, Kc7, Eg_a1, Feg_a1, Fsg_a1, Fmg_a1, Vg, Og, gg, Nat.le_trans (Keep.of_wr W4).1 szg, Eag⟩
def Q_addb (Z : State) (a1 : Addr) (a2 : Addr) (aE : Addr) (ps : Int32) (pm : Int32) (kA : ClassId) (vs : List Value) (h0 : Heap) (n0 : Nat) (v : Option Value) (h : Heap) (L : List Loc) : Prop := v = some (.int (1 : Int32)) ∧ Fr n0 L ∧ Keep h0 h [a1, aE] ∧ Exa Z h a1 "java/util/ArrayList" ∧ Fld Z h a1 "java/util/ArrayList" "elementData" "[Ljava/lang/Object;" (.ref aE) ∧ Fld Z h a1 "java/util/ArrayList" "size" "I" (.int (ps + (1 : Int32))) ∧ Fld Z h a1 "java/util/AbstractList" "modCount" "I" (.int (pm + (1 : Int32))) ∧ Arv Z h aE kA (.object "java/lang/Object") (10 : Int32) (vs.set ps.toNatClampNeg (.ref a2)) .null
theorem rm_addb (l : Launch) (Z : State) (a0 : Array Value) (hw : ∀ d ∈ tables_1, d.before a0 Z = true) (ws : List Jvm.Cond) (a1 : Addr) (a2 : Addr) (aE : Addr) (ps : Int32) (pm : Int32) (kA : ClassId) (vs : List Value) (h0 : Heap) (n0 : Nat) (Z0 : n0 ≤ h0.size) (E_a1 : Exa Z h0 a1 "java/util/ArrayList") (Fe_a1 : Fld Z h0 a1 "java/util/ArrayList" "elementData" "[Ljava/lang/Object;" (.ref aE)) (Fs_a1 : Fld Z h0 a1 "java/util/ArrayList" "size" "I" (.int ps)) (Fm_a1 : Fld Z h0 a1 "java/util/AbstractList" "modCount" "I" (.int pm)) (V_aE : Arv Z h0 aE kA (.object "java/lang/Object") (10 : Int32) vs .null) (hvs : vs.length = 10) (Og : Ovr Z kA "java/lang/Object") (gg : n0 ≤ aE) (hne : a1 ≠ aE) (g_a1 : n0 ≤ a1) (I_a2 : Ins Z h0 a2 "java/lang/Object" true) (hp0 : ¬ ps < 0) (hp10 : ps < 10) (hn10 : ¬ (ps = (10 : Int32))) :
    MetFree l own_y4 (head1 (Jvm.Cond.code own_y4 jdk_38_method_25_code 2 (some .boolean) :: ws) own_r14) (fun a U => a = #[(.ref a1), (.ref a2)] ∧ Z.Warmed39 U.vm ∧ U.heap = h0) (fun _ _ _ _ _ => True) (fun _ U o U' => ∃ v L, o = .returned v ∧ Q_addb Z a1 a2 aE ps pm kA vs h0 n0 v U'.heap L ∧ FrameEnd U o U' L own_r14.cells own_r14.slots) := by
  refine MetFree.of_bodySF (plainFor_of_name pn_12) hisR ?_
  intro p e s m args below meth c s₁ Bd hml0 hP hK
  obtain ⟨rfl, hZ, hh⟩ := hP
  have hx := Bd.exec
  have hby := Bd.bytes
  have hml : c.maxLocals = 2 := hml0
  have hown : s.vm.findClass "java/util/ArrayList" = some m.cls := findClass_of_methodNamed Bd.named
  have hnm := (name_of_methodNamed Bd.named Bd.method).1
  have X0 : Stand p l e own_r14 s m #[(.ref a1), (.ref a2)] below meth c s₁ [] 0 0 := Stand.of_body Bd
  have e0 : s₁.heap = h0 := by rw [← hh, Bd.state]; rfl
  have N0 := Fr.nil n0
  have pre0 : ∀ t, Steps p.tables e below (s₁.setTop (mkF m 0 #[.val (.ref a1), .val (.ref a2)] [])) t → Steps p.tables e below (s₁.setTop (entryFrame m #[(.ref a1), (.ref a2)] 2)) t := fun t k => castTop (ef_12 m a1 a2) k
  obtain ⟨T3, X3, e3, st3⟩ := getF X0 hx hZ hown (host := "") (Or.inl (own_w hw 79 rfl)) (Via.of (own_w hw 80 rfl)) e0 Fm_a1 (g := (mkF m 2 #[.val (.ref a1), .val (.ref a2)] [(.ref a1), (.ref a1)])) rfl rfl (hb hby d12_2)
  obtain ⟨T4, h4, X4, e4, W4, st4⟩ := putF X3 hx hZ hown (host := "") (Or.inl (own_w hw 79 rfl)) (Via.of (own_w hw 80 rfl)) e3 Fm_a1 E_a1 (Or.inl (own_w hw 46 rfl)) (own_w hw 27 rfl) (ty := .int) (by decide) rfl rfl (g := (mkF m 7 #[.val (.ref a1), .val (.ref a2)] [(.int (pm + (1 : Int32))), (.ref a1)])) rfl rfl (hb hby d12_7)
  have Fw4 := Fm_a1.same W4
  have K4 : Keep h0 h4 [a1, aE] := (Keep.refl h0 [a1, aE]).wr W4 (Or.inl (List.mem_of_getElem? (i := 0) rfl))
  have N4 := Fr.snoc X4 N0 g_a1
  obtain ⟨T5, X5, e5, st5⟩ := getF X4 hx hZ hown (host := "") (Or.inl (own_w hw 48 rfl)) Via.refl e4 (Fe_a1.other W4 (Or.inr (slot_ne (Or.inl (own_w hw 49 rfl)) (Or.inl (own_w hw 46 rfl)) (by decide) (t := (.array (.object "java/lang/Object"))) (t' := .int) (by decide) (by decide)))) (g := (mkF m 13 #[.val (.ref a1), .val (.ref a2)] [(.ref a1), (.ref a2), (.ref a1)])) rfl rfl (hb hby d12_13)
  obtain ⟨T6, X6, e6, st6⟩ := getF X5 hx hZ hown (host := "") (Or.inl (own_w hw 81 rfl)) Via.refl e5 (Fs_a1.other W4 (Or.inr (slot_ne (Or.inl (own_w hw 82 rfl)) (Or.inl (own_w hw 46 rfl)) (by decide) (t := .int) (t' := .int) (by decide) (by decide)))) (g := (mkF m 17 #[.val (.ref a1), .val (.ref a2)] [(.ref a1), (.ref aE), (.ref a2), (.ref a1)])) rfl rfl (hb hby d12_17)
  obtain ⟨cq7, q7, q7'⟩ := (E_a1.wr W4).cell
  obtain ⟨_, _, ⟨T7, L7, k7, n7⟩, -, X7, ⟨Lc7, hQ7, l7, y7, z7⟩, st7⟩ := X6.privateBack hx (y := own_y20) hown (mvT hZ (own_w hw 83 rfl)) (mvT hZ (own_w hw 84 rfl)) (mvT hZ (own_w hw 86 rfl)) (Cond.privateMethod_at (mvP hZ (own_w hw 85 rfl) (args := #[]))) (mvT hZ (own_w hw 87 rfl)) (by decide) (backOf (W := 0) (rm_add3b l Z a0 hw [] a1 a2 aE ps _ kA vs h4 n0 (Nat.le_trans Z0 (Keep.of_wr W4).1) (E_a1.wr W4) (Fe_a1.other W4 (Or.inr (slot_ne (Or.inl (own_w hw 49 rfl)) (Or.inl (own_w hw 46 rfl)) (by decide) (t := (.array (.object "java/lang/Object"))) (t' := .int) (by decide) (by decide)))) (Fs_a1.other W4 (Or.inr (slot_ne (Or.inl (own_w hw 82 rfl)) (Or.inl (own_w hw 46 rfl)) (by decide) (t := .int) (t' := .int) (by decide) (by decide)))) Fw4 (V_aE.other W4 hne.symm) hvs Og gg hne g_a1 (I_a2.wr W4) hp0 hp10 hn10) hZ (own_w hw 87 rfl) (own_w hw 28 rfl) (by decide) (by decide)) (g := (mkF m 20 #[.val (.ref a1), .val (.ref a2)] [(.int ps), (.ref aE), (.ref a2), (.ref a1)])) rfl (by rw [hml]; rfl) (Steps.refl _) (a := a1) (by rw [e6]; exact q7) q7' (argsL := [(.ref a2), (.ref aE), (.int ps)]) (rest := []) (lenOf pd_12_8 rfl) rfl (Nat.le_of_eq rfl) (hb hby d12_20) (fun _ _ => ⟨rfl, e6, (by decide : 0 + 0 ≤ _), (by decide : 0 + 0 ≤ _)⟩)
  dsimp only [Pt.U, Pt.locs, Pt.cells, Pt.slots] at X7 l7 y7 z7 st7 hQ7
  subst l7 y7 z7
  obtain ⟨rfl, N7q, Kg, Eg_a1, Feg_a1, Fsg_a1, Fmg_a1, Vg⟩ := hQ7
  have N7 := Fr.app N4 N7q
  have Kc7 : Keep h0 T7.heap [a1, aE] := K4.trans Kg (allS (Or.inl (List.mem_of_getElem? (i := 0) rfl)) (allS (Or.inl (List.mem_of_getElem? (i := 1) rfl)) all0))
  obtain ⟨fs, hr, hrun, hended, hW, hsame⟩ := X7.leave (v := some (.int (1 : Int32))) (fun h => by rw [Bd.returns] at h; cases h)
  refine ⟨_, _, pre0 _ ?_, hrun, hended, _, _, rfl, ?_, ⟨_, rfl⟩, hW, hsame.mono (by decide) (by decide)⟩
  · show Steps _ _ _ (s₁.setTop (mkF m 0 #[.val (.ref a1), .val (.ref a2)] [])) _
    refine XS.aloadN X0.here hx rfl (hb hby d12_0) rfl rfl ?_
    refine XS.dup X0.here hx rfl (hb hby d12_1) rfl rfl ?_
    show Steps _ _ _ (s₁.setTop (mkF m 2 #[.val (.ref a1), .val (.ref a2)] [(.ref a1), (.ref a1)])) _
    refine st3 _ ?_
    show Steps _ _ _ (T3.setTop (mkF m 5 #[.val (.ref a1), .val (.ref a2)] [(.int pm), (.ref a1)])) _
    refine XS.iconst X3.here hx rfl (hb hby d12_5) ?_
    refine XS.iadd X3.here hx rfl (hb hby d12_6) rfl ?_
    show Steps _ _ _ (T3.setTop (mkF m 7 #[.val (.ref a1), .val (.ref a2)] [(.int (pm + (1 : Int32))), (.ref a1)])) _
    refine st4 _ ?_
    show Steps _ _ _ (T4.setTop (mkF m 10 #[.val (.ref a1), .val (.ref a2)] [])) _
    refine XS.aloadN X4.here hx rfl (hb hby d12_10) rfl rfl ?_
    refine XS.aloadN X4.here hx rfl (hb hby d12_11) rfl rfl ?_
    refine XS.aloadN X4.here hx rfl (hb hby d12_12) rfl rfl ?_
    show Steps _ _ _ (T4.setTop (mkF m 13 #[.val (.ref a1), .val (.ref a2)] [(.ref a1), (.ref a2), (.ref a1)])) _
    refine st5 _ ?_
    show Steps _ _ _ (T5.setTop (mkF m 16 #[.val (.ref a1), .val (.ref a2)] [(.ref aE), (.ref a2), (.ref a1)])) _
    refine XS.aloadN X5.here hx rfl (hb hby d12_16) rfl rfl ?_
    show Steps _ _ _ (T5.setTop (mkF m 17 #[.val (.ref a1), .val (.ref a2)] [(.ref a1), (.ref aE), (.ref a2), (.ref a1)])) _
    refine st6 _ ?_
    show Steps _ _ _ (T6.setTop (mkF m 20 #[.val (.ref a1), .val (.ref a2)] [(.int ps), (.ref aE), (.ref a2), (.ref a1)])) _
    refine st7.trans ?_
    show Steps _ _ _ (T7.setTop (mkF m 23 #[.val (.ref a1), .val (.ref a2)] [])) _
    refine XS.iconst X7.here hx rfl (hb hby d12_23) ?_
    show Steps _ _ _ (T7.setTop (mkF m 24 #[.val (.ref a1), .val (.ref a2)] [(.int (1 : Int32))])) _
    exact retN X7 hx (t := .boolean) Bd.returns (by simp) (hb hby d12_24) hr
  · show Q_addb Z a1 a2 aE ps pm kA vs h0 n0 _ T7.heap _
    exact ⟨rfl, N7, Kc7, Eg_a1, Feg_a1, Fsg_a1, Fmg_a1, Vg⟩
theorem d11_0 : decode jdk_18_method_1_code 0 = .ok (.aload_n 0, 1) := by decide +kernel
theorem d11_1 : decode jdk_18_method_1_code 1 = .ok (.invokespecial 1, 3) := by decide +kernel
theorem d11_4 : decode jdk_18_method_1_code 4 = .ok (.return_, 1) := by decide +kernel
theorem pn_11 : plainName "java/lang/Number" = true := by first | (simp [plainName, overriddenIn]; done) | decide +kernel
theorem ef_11 (m : MethodId) (x0 : Addr) : entryFrame m #[(.ref x0)] 1 = mkF m 0 #[.val (.ref x0)] [] := by first | (simp [entryFrame, mkF, argsToLocals, Value.category]; done) | rfl
def Q_num (Z : State) (a1 : Addr) (h0 : Heap) (n0 : Nat) (v : Option Value) (h : Heap) (L : List Loc) : Prop := v = none ∧ Fr n0 L ∧ h = h0
theorem rm_num (l : Launch) (Z : State) (a0 : Array Value) (hw : ∀ d ∈ tables_1, d.before a0 Z = true) (ws : List Jvm.Cond) (a1 : Addr) (h0 : Heap) (n0 : Nat) (Z0 : n0 ≤ h0.size) :
    MetFree l own_y42 (head1 (Jvm.Cond.code own_y42 jdk_18_method_1_code 1 none :: ws) own_r2) (fun a U => a = #[(.ref a1)] ∧ Z.Warmed39 U.vm ∧ U.heap = h0) (fun _ _ _ _ _ => True) (fun _ U o U' => ∃ v L, o = .returned v ∧ Q_num Z a1 h0 n0 v U'.heap L ∧ FrameEnd U o U' L own_r2.cells own_r2.slots) := by
  refine MetFree.of_bodySF (plainFor_of_name pn_11) hisR ?_
  intro p e s m args below meth c s₁ Bd hml0 hP hK
  obtain ⟨rfl, hZ, hh⟩ := hP
  have hx := Bd.exec
  have hby := Bd.bytes
  have hml : c.maxLocals = 1 := hml0
  have hown : s.vm.findClass "java/lang/Number" = some m.cls := findClass_of_methodNamed Bd.named
  have hnm := (name_of_methodNamed Bd.named Bd.method).1
  have X0 : Stand p l e own_r2 s m #[(.ref a1)] below meth c s₁ [] 0 0 := Stand.of_body Bd
  have e0 : s₁.heap = h0 := by rw [← hh, Bd.state]; rfl
  have N0 := Fr.nil n0
  have pre0 : ∀ t, Steps p.tables e below (s₁.setTop (mkF m 0 #[.val (.ref a1)] [])) t → Steps p.tables e below (s₁.setTop (entryFrame m #[(.ref a1)] 1)) t := fun t k => castTop (ef_11 m a1) k
  obtain ⟨T2, X2, e2, st2⟩ := initO X0 hx hZ hown (own_w hw 67 rfl) (own_w hw 20 rfl) (own_w hw 21 rfl) e0 (g := (mkF m 1 #[.val (.ref a1)] [(.ref a1)])) rfl (by rw [hml]; rfl) rfl (hb hby d11_1) (by decide) (W := 0) (Nat.le_of_eq rfl) (by decide)
  obtain ⟨fs, hr, hrun, hended, hW, hsame⟩ := X2.leave (v := none) (fun _ => rfl)
  refine ⟨_, _, pre0 _ ?_, hrun, hended, _, _, rfl, ?_, ⟨_, rfl⟩, hW, hsame.mono (by decide) (by decide)⟩
  · show Steps _ _ _ (s₁.setTop (mkF m 0 #[.val (.ref a1)] [])) _
    refine XS.aloadN X0.here hx rfl (hb hby d11_0) rfl rfl ?_
    show Steps _ _ _ (s₁.setTop (mkF m 1 #[.val (.ref a1)] [(.ref a1)])) _
    refine st2 _ ?_
    show Steps _ _ _ (T2.setTop (mkF m 4 #[.val (.ref a1)] [])) _
    exact X2.returnOut hx Bd.returns (hb hby d11_4) hr
  · show Q_num Z a1 h0 n0 _ T2.heap _
    rw [e2]
    exact ⟨rfl, N0, rfl⟩
theorem d10_0 : decode jdk_35_method_26_code 0 = .ok (.aload_n 0, 1) := by decide +kernel
theorem d10_1 : decode jdk_35_method_26_code 1 = .ok (.invokespecial 270, 3) := by decide +kernel
theorem d10_4 : decode jdk_35_method_26_code 4 = .ok (.aload_n 0, 1) := by decide +kernel
theorem d10_5 : decode jdk_35_method_26_code 5 = .ok (.lload_n 1, 1) := by decide +kernel
theorem d10_6 : decode jdk_35_method_26_code 6 = .ok (.putfield 273, 3) := by decide +kernel
theorem d10_9 : decode jdk_35_method_26_code 9 = .ok (.return_, 1) := by decide +kernel
theorem pn_10 : plainName "java/lang/Long" = true := by first | (simp [plainName, overriddenIn]; done) | decide +kernel
theorem pd_10_4 : parseMethodDescriptor "()V" = some ⟨[], none⟩ := by decide +kernel
theorem ef_10 (m : MethodId) (x0 : Addr) (x1 : Int64) : entryFrame m #[(.ref x0), (.long x1)] 3 = mkF m 0 #[.val (.ref x0), .val (.long x1), .second] [] := by first | (simp [entryFrame, mkF, argsToLocals, Value.category]; done) | rfl
def Q_linit (Z : State) (a1 : Addr) (q2 : Int64) (u_value_a1 : Value) (h0 : Heap) (n0 : Nat) (v : Option Value) (h : Heap) (L : List Loc) : Prop := v = none ∧ Fr n0 L ∧ Keep h0 h [a1] ∧ Exa Z h a1 "java/lang/Long"
theorem rm_linit (l : Launch) (Z : State) (a0 : Array Value) (hw : ∀ d ∈ tables_1, d.before a0 Z = true) (ws : List Jvm.Cond) (a1 : Addr) (q2 : Int64) (u_value_a1 : Value) (h0 : Heap) (n0 : Nat) (Z0 : n0 ≤ h0.size) (E_a1 : Exa Z h0 a1 "java/lang/Long") (F_value_a1 : Fld Z h0 a1 "java/lang/Long" "value" "J" u_value_a1) (g_a1 : n0 ≤ a1) :
    MetFree l own_y30 (head1 (Jvm.Cond.code own_y30 jdk_35_method_26_code 3 none :: ws) own_r4) (fun a U => a = #[(.ref a1), (.long q2)] ∧ Z.Warmed39 U.vm ∧ U.heap = h0) (fun _ _ _ _ _ => True) (fun _ U o U' => ∃ v L, o = .returned v ∧ Q_linit Z a1 q2 u_value_a1 h0 n0 v U'.heap L ∧ FrameEnd U o U' L own_r4.cells own_r4.slots) := by
  refine MetFree.of_bodySF (plainFor_of_name pn_10) hisR ?_
  intro p e s m args below meth c s₁ Bd hml0 hP hK
  obtain ⟨rfl, hZ, hh⟩ := hP
  have hx := Bd.exec
  have hby := Bd.bytes
  have hml : c.maxLocals = 3 := hml0
  have hown : s.vm.findClass "java/lang/Long" = some m.cls := findClass_of_methodNamed Bd.named
  have hnm := (name_of_methodNamed Bd.named Bd.method).1
  have X0 : Stand p l e own_r4 s m #[(.ref a1), (.long q2)] below meth c s₁ [] 0 0 := Stand.of_body Bd
  have e0 : s₁.heap = h0 := by rw [← hh, Bd.state]; rfl
  have N0 := Fr.nil n0
  have pre0 : ∀ t, Steps p.tables e below (s₁.setTop (mkF m 0 #[.val (.ref a1), .val (.long q2), .second] [])) t → Steps p.tables e below (s₁.setTop (entryFrame m #[(.ref a1), (.long q2)] 3)) t := fun t k => castTop (ef_10 m a1 q2) k
  obtain ⟨_, _, ⟨T3, L3, k3, n3⟩, -, X3, ⟨Lc3, hQ3, l3, y3, z3⟩, st3⟩ := X0.specialBack hx (y := own_y42) rfl hown (mvT hZ (own_w hw 61 rfl)) (mvT hZ (own_w hw 62 rfl)) (mvT hZ (own_w hw 66 rfl)) (by decide) (backOf (W := 0) (rm_num l Z a0 hw [] a1  h0 n0 Z0) hZ (own_w hw 66 rfl) (own_w hw 65 rfl) (by decide) (by decide)) (g := (mkF m 1 #[.val (.ref a1), .val (.long q2), .second] [(.ref a1)])) rfl (by rw [hml]; rfl) (Steps.refl _) (a := a1) (argsL := []) (rest := []) (lenOf pd_10_4 rfl) rfl (Nat.le_of_eq rfl) (hb hby d10_1) (fun _ _ => ⟨rfl, e0, (by decide : 0 + 0 ≤ _), (by decide : 0 + 0 ≤ _)⟩)
  dsimp only [Pt.U, Pt.locs, Pt.cells, Pt.slots] at X3 l3 y3 z3 st3 hQ3
  subst l3 y3 z3
  obtain ⟨rfl, N3q, K3⟩ := hQ3
  have N3 := Fr.app N0 N3q
  obtain ⟨T4, h4, X4, e4, W4, st4⟩ := putF X3 hx hZ hown (host := "") (Or.inl (own_w hw 68 rfl)) Via.refl K3 F_value_a1 E_a1 (Or.inr ⟨(own_w hw 69 rfl), rfl, hnm⟩) (own_w hw 56 rfl) (ty := .long) (by decide) rfl rfl (g := (mkF m 6 #[.val (.ref a1), .val (.long q2), .second] [(.long q2), (.ref a1)])) rfl rfl (hb hby d10_6)
  have Fw4 := F_value_a1.same W4
  have K4 : Keep h0 h4 [a1] := (Keep.refl h0 [a1]).wr W4 (Or.inl (List.mem_of_getElem? (i := 0) rfl))
  have N4 := Fr.snoc X4 N3 g_a1
  obtain ⟨fs, hr, hrun, hended, hW, hsame⟩ := X4.leave (v := none) (fun _ => rfl)
  refine ⟨_, _, pre0 _ ?_, hrun, hended, _, _, rfl, ?_, ⟨_, rfl⟩, hW, hsame.mono (by decide) (by decide)⟩
  · show Steps _ _ _ (s₁.setTop (mkF m 0 #[.val (.ref a1), .val (.long q2), .second] [])) _
    refine XS.aloadN X0.here hx rfl (hb hby d10_0) rfl rfl ?_
    show Steps _ _ _ (s₁.setTop (mkF m 1 #[.val (.ref a1), .val (.long q2), .second] [(.ref a1)])) _
    refine st3.trans ?_
    show Steps _ _ _ (T3.setTop (mkF m 4 #[.val (.ref a1), .val (.long q2), .second] [])) _
    refine XS.aloadN X3.here hx rfl (hb hby d10_4) rfl rfl ?_
    refine XS.lloadN X3.here hx rfl (hb hby d10_5) rfl ?_
    show Steps _ _ _ (T3.setTop (mkF m 6 #[.val (.ref a1), .val (.long q2), .second] [(.long q2), (.ref a1)])) _
    refine st4 _ ?_
    show Steps _ _ _ (T4.setTop (mkF m 9 #[.val (.ref a1), .val (.long q2), .second] [])) _
    exact X4.returnOut hx Bd.returns (hb hby d10_9) hr
  · show Q_linit Z a1 q2 u_value_a1 h0 n0 _ T4.heap _
    rw [e4]
    exact ⟨rfl, N4, K4, (E_a1.wr W4)⟩
theorem d9_0 : decode jdk_35_method_24_code 0 = .ok (.sipush 128, 3) := by decide +kernel
theorem d9_3 : decode jdk_35_method_24_code 3 = .ok (.istore_n 2, 1) := by decide +kernel
theorem d9_4 : decode jdk_35_method_24_code 4 = .ok (.lload_n 0, 1) := by decide +kernel
theorem d9_5 : decode jdk_35_method_24_code 5 = .ok (.ldc2_w 230, 3) := by decide +kernel
theorem d9_8 : decode jdk_35_method_24_code 8 = .ok (.lcmp, 1) := by decide +kernel
theorem d9_9 : decode jdk_35_method_24_code 9 = .ok (.ifCond .lt 22, 3) := by decide +kernel
theorem d9_31 : decode jdk_35_method_24_code 31 = .ok (.new 1, 3) := by decide +kernel
theorem d9_34 : decode jdk_35_method_24_code 34 = .ok (.dup, 1) := by decide +kernel
theorem d9_35 : decode jdk_35_method_24_code 35 = .ok (.lload_n 0, 1) := by decide +kernel
theorem d9_36 : decode jdk_35_method_24_code 36 = .ok (.invokespecial 240, 3) := by decide +kernel
theorem d9_39 : decode jdk_35_method_24_code 39 = .ok (.areturn, 1) := by decide +kernel
theorem pn_9 : plainName "java/lang/Long" = true := by first | (simp [plainName, overriddenIn]; done) | decide +kernel
theorem pd_9_6 : parseMethodDescriptor "(J)V" = some ⟨[.long], none⟩ := by decide +kernel
theorem ef_9 (m : MethodId) (x0 : Int64) : entryFrame m #[(.long x0)] 3 = mkF m 0 #[.val (.long x0), .second, .unset] [] := by first | (simp [entryFrame, mkF, argsToLocals, Value.category]; done) | rfl
def Q_lvA (Z : State) (q1 : Int64) (h0 : Heap) (n0 : Nat) (v : Option Value) (h : Heap) (L : List Loc) : Prop := ∃ b, v = some (.ref b) ∧ Fr n0 L ∧ Ext h0 h ∧ Exa Z h b "java/lang/Long"
theorem rm_lvA (l : Launch) (Z : State) (a0 : Array Value) (hw : ∀ d ∈ tables_1, d.before a0 Z = true) (ws : List Jvm.Cond) (q1 : Int64) (h0 : Heap) (n0 : Nat) (Z0 : n0 ≤ h0.size) (hc9 : (lcmpW q1 (-128 : Int64)) < (0 : Int32)) :
    MetFree l own_y1 (head1 (Jvm.Cond.code own_y1 jdk_35_method_24_code 3 (some (.object "java/lang/Long")) :: ws) own_r1) (fun a U => a = #[(.long q1)] ∧ Z.Warmed39 U.vm ∧ U.heap = h0) (fun _ _ _ _ _ => True) (fun _ U o U' => ∃ v L, o = .returned v ∧ Q_lvA Z q1 h0 n0 v U'.heap L ∧ FrameEnd U o U' L own_r1.cells own_r1.slots) := by
  refine MetFree.of_bodySF (plainFor_of_name pn_9) hisR ?_
  intro p e s m args below meth c s₁ Bd hml0 hP hK
  obtain ⟨rfl, hZ, hh⟩ := hP
  have hx := Bd.exec
  have hby := Bd.bytes
  have hml : c.maxLocals = 3 := hml0
  have hown : s.vm.findClass "java/lang/Long" = some m.cls := findClass_of_methodNamed Bd.named
  have hnm := (name_of_methodNamed Bd.named Bd.method).1
  have X0 : Stand p l e own_r1 s m #[(.long q1)] below meth c s₁ [] 0 0 := Stand.of_body Bd
  have e0 : s₁.heap = h0 := by rw [← hh, Bd.state]; rfl
  have N0 := Fr.nil n0
  have pre0 : ∀ t, Steps p.tables e below (s₁.setTop (mkF m 0 #[.val (.long q1), .second, .unset] [])) t → Steps p.tables e below (s₁.setTop (entryFrame m #[(.long q1)] 3)) t := fun t k => castTop (ef_9 m q1) k
  obtain ⟨T2, h2, X2, e2, E2, A2, D2, -, st2⟩ := newO X0 hx hZ hown (own_w hw 55 rfl) (own_w hw 56 rfl) (own_w hw 52 rfl) e0 (g := (mkF m 31 #[.val (.long q1), .second, .val (.int (128 : Int32))] [])) rfl (hb hby d9_31) (by decide) (by decide)
  obtain ⟨b2, g2⟩ : ∃ z, z = h0.size := ⟨_, rfl⟩
  rw [← g2] at A2 D2 st2
  have F_value_b2 : Fld Z h2 b2 "java/lang/Long" "value" "J" (.long (0 : Int64)) := D2 (Or.inr (own_w hw 69 rfl)) (ty := .long) (by decide)
  have E_b2 := A2
  have g_b2 : n0 ≤ b2 := Nat.le_trans Z0 (Nat.le_of_eq g2.symm)
  have sz_b2 : h0.size ≤ b2 := (Nat.le_trans (Keep.refl h0 []).1 (Nat.le_of_eq g2.symm))
  have K2 : Keep h0 h2 [] := (Keep.refl h0 []).ext E2
  obtain ⟨_, _, ⟨T3, L3, k3, n3⟩, -, X3, ⟨Lc3, hQ3, l3, y3, z3⟩, st3⟩ := X2.specialBack hx (y := own_y30) rfl hown (mvT hZ (own_w hw 57 rfl)) (mvT hZ (own_w hw 58 rfl)) (mvT hZ (own_w hw 60 rfl)) (by decide) (backOf (W := 1) (rm_linit l Z a0 hw [] b2 q1 _ h2 n0 (Nat.le_trans Z0 E2.1) E_b2 F_value_b2 g_b2) hZ (own_w hw 60 rfl) (own_w hw 52 rfl) (by decide) (by decide)) (g := (mkF m 36 #[.val (.long q1), .second, .val (.int (128 : Int32))] [(.long q1), (.ref b2), (.ref b2)])) rfl (by rw [hml]; rfl) (Steps.refl _) (a := b2) (argsL := [(.long q1)]) (rest := [(.ref b2)]) (lenOf pd_9_6 rfl) rfl (Nat.le_of_eq rfl) (hb hby d9_36) (fun _ _ => ⟨rfl, e2, (by decide : 1 + 0 ≤ _), (by decide : 1 + 0 ≤ _)⟩)
  dsimp only [Pt.U, Pt.locs, Pt.cells, Pt.slots] at X3 l3 y3 z3 st3 hQ3
  subst l3 y3 z3
  obtain ⟨rfl, N3q, K3, Ea3⟩ := hQ3
  have N3 := Fr.app N0 N3q
  have Kc3 : Keep h0 T3.heap [] := K2.trans K3 (allS (Or.inr sz_b2) all0)
  obtain ⟨fs, hr, hrun, hended, hW, hsame⟩ := X3.leave (v := some (.ref b2)) (fun h => by rw [Bd.returns] at h; cases h)
  refine ⟨_, _, pre0 _ ?_, hrun, hended, _, _, rfl, ?_, ⟨_, rfl⟩, hW, hsame.mono (by decide) (by decide)⟩
  · show Steps _ _ _ (s₁.setTop (mkF m 0 #[.val (.long q1), .second, .unset] [])) _
    refine XS.sipush X0.here hx rfl (hb hby d9_0) ?_
    refine XS.istoreN X0.here hx rfl (hb hby d9_3) rfl (l' := #[.val (.long q1), .second, .val (.int (128 : Int32))]) rfl ?_
    refine XS.lloadN X0.here hx rfl (hb hby d9_4) rfl ?_
    show Steps _ _ _ (s₁.setTop (mkF m 5 #[.val (.long q1), .second, .val (.int (128 : Int32))] [(.long q1)])) _
    refine X0.ldc2Long hx hown (mvT hZ (own_w hw 54 rfl)) (g := (mkF m 5 #[.val (.long q1), .second, .val (.int (128 : Int32))] [(.long q1)])) rfl (hb hby d9_5) _ ?_
    show Steps _ _ _ (s₁.setTop (mkF m 8 #[.val (.long q1), .second, .val (.int (128 : Int32))] [(.long (-128 : Int64)), (.long q1)])) _
    refine XS.lcmp X0.here hx rfl (hb hby d9_8) rfl ?_
    refine XS.ifYes X0.here hx rfl (pc0 := 9) (pc' := 31) rfl (hb hby d9_9) rfl ((if0 _ _).trans (tlt hc9).1) (by decide) (by decide) ?_
    show Steps _ _ _ (s₁.setTop (mkF m 31 #[.val (.long q1), .second, .val (.int (128 : Int32))] [])) _
    refine st2 _ ?_
    show Steps _ _ _ (T2.setTop (mkF m 34 #[.val (.long q1), .second, .val (.int (128 : Int32))] [(.ref b2)])) _
    refine XS.dup X2.here hx rfl (hb hby d9_34) rfl rfl ?_
    refine XS.lloadN X2.here hx rfl (hb hby d9_35) rfl ?_
    show Steps _ _ _ (T2.setTop (mkF m 36 #[.val (.long q1), .second, .val (.int (128 : Int32))] [(.long q1), (.ref b2), (.ref b2)])) _
    refine st3.trans ?_
    show Steps _ _ _ (T3.setTop (mkF m 39 #[.val (.long q1), .second, .val (.int (128 : Int32))] [(.ref b2)])) _
    jvm_step X3.here [X3.here.top, hx, (hb hby d9_39), X3.method', Bd.returns, Value.isRef, FieldType.isReference]
    first | (intro acts; rw [hr _ acts rfl rfl rfl]) | rw [hr _ _ rfl rfl rfl]
    exact Steps.refl _
  · show Q_lvA Z q1 h0 n0 _ T3.heap _
    exact ⟨_, rfl, N3, own_ext Kc3, Ea3⟩
theorem d9_12 : decode jdk_35_method_24_code 12 = .ok (.lload_n 0, 1) := by decide +kernel
theorem d9_13 : decode jdk_35_method_24_code 13 = .ok (.ldc2_w 232, 3) := by decide +kernel
theorem d9_16 : decode jdk_35_method_24_code 16 = .ok (.lcmp, 1) := by decide +kernel
theorem d9_17 : decode jdk_35_method_24_code 17 = .ok (.ifCond .gt 14, 3) := by decide +kernel
def Q_lvB (Z : State) (q1 : Int64) (h0 : Heap) (n0 : Nat) (v : Option Value) (h : Heap) (L : List Loc) : Prop := ∃ b, v = some (.ref b) ∧ Fr n0 L ∧ Ext h0 h ∧ Exa Z h b "java/lang/Long"
theorem rm_lvB (l : Launch) (Z : State) (a0 : Array Value) (hw : ∀ d ∈ tables_1, d.before a0 Z = true) (ws : List Jvm.Cond) (q1 : Int64) (h0 : Heap) (n0 : Nat) (Z0 : n0 ≤ h0.size) (hc9 : ¬ ((lcmpW q1 (-128 : Int64)) < (0 : Int32))) (hc17 : (0 : Int32) < (lcmpW q1 (127 : Int64))) :
    MetFree l own_y1 (head1 (Jvm.Cond.code own_y1 jdk_35_method_24_code 3 (some (.object "java/lang/Long")) :: ws) own_r1) (fun a U => a = #[(.long q1)] ∧ Z.Warmed39 U.vm ∧ U.heap = h0) (fun _ _ _ _ _ => True) (fun _ U o U' => ∃ v L, o = .returned v ∧ Q_lvB Z q1 h0 n0 v U'.heap L ∧ FrameEnd U o U' L own_r1.cells own_r1.slots) := by
  refine MetFree.of_bodySF (plainFor_of_name pn_9) hisR ?_
  intro p e s m args below meth c s₁ Bd hml0 hP hK
  obtain ⟨rfl, hZ, hh⟩ := hP
  have hx := Bd.exec
  have hby := Bd.bytes
  have hml : c.maxLocals = 3 := hml0
  have hown : s.vm.findClass "java/lang/Long" = some m.cls := findClass_of_methodNamed Bd.named
  have hnm := (name_of_methodNamed Bd.named Bd.method).1
  have X0 : Stand p l e own_r1 s m #[(.long q1)] below meth c s₁ [] 0 0 := Stand.of_body Bd
  have e0 : s₁.heap = h0 := by rw [← hh, Bd.state]; rfl
  have N0 := Fr.nil n0
  have pre0 : ∀ t, Steps p.tables e below (s₁.setTop (mkF m 0 #[.val (.long q1), .second, .unset] [])) t → Steps p.tables e below (s₁.setTop (entryFrame m #[(.long q1)] 3)) t := fun t k => castTop (ef_9 m q1) k
  obtain ⟨T2, h2, X2, e2, E2, A2, D2, -, st2⟩ := newO X0 hx hZ hown (own_w hw 55 rfl) (own_w hw 56 rfl) (own_w hw 52 rfl) e0 (g := (mkF m 31 #[.val (.long q1), .second, .val (.int (128 : Int32))] [])) rfl (hb hby d9_31) (by decide) (by decide)
  obtain ⟨b2, g2⟩ : ∃ z, z = h0.size := ⟨_, rfl⟩
  rw [← g2] at A2 D2 st2
  have F_value_b2 : Fld Z h2 b2 "java/lang/Long" "value" "J" (.long (0 : Int64)) := D2 (Or.inr (own_w hw 69 rfl)) (ty := .long) (by decide)
  have E_b2 := A2
  have g_b2 : n0 ≤ b2 := Nat.le_trans Z0 (Nat.le_of_eq g2.symm)
  have sz_b2 : h0.size ≤ b2 := (Nat.le_trans (Keep.refl h0 []).1 (Nat.le_of_eq g2.symm))
  have K2 : Keep h0 h2 [] := (Keep.refl h0 []).ext E2
  obtain ⟨_, _, ⟨T3, L3, k3, n3⟩, -, X3, ⟨Lc3, hQ3, l3, y3, z3⟩, st3⟩ := X2.specialBack hx (y := own_y30) rfl hown (mvT hZ (own_w hw 57 rfl)) (mvT hZ (own_w hw 58 rfl)) (mvT hZ (own_w hw 60 rfl)) (by decide) (backOf (W := 1) (rm_linit l Z a0 hw [] b2 q1 _ h2 n0 (Nat.le_trans Z0 E2.1) E_b2 F_value_b2 g_b2) hZ (own_w hw 60 rfl) (own_w hw 52 rfl) (by decide) (by decide)) (g := (mkF m 36 #[.val (.long q1), .second, .val (.int (128 : Int32))] [(.long q1), (.ref b2), (.ref b2)])) rfl (by rw [hml]; rfl) (Steps.refl _) (a := b2) (argsL := [(.long q1)]) (rest := [(.ref b2)]) (lenOf pd_9_6 rfl) rfl (Nat.le_of_eq rfl) (hb hby d9_36) (fun _ _ => ⟨rfl, e2, (by decide : 1 + 0 ≤ _), (by decide : 1 + 0 ≤ _)⟩)
  dsimp only [Pt.U, Pt.locs, Pt.cells, Pt.slots] at X3 l3 y3 z3 st3 hQ3
  subst l3 y3 z3
  obtain ⟨rfl, N3q, K3, Ea3⟩ := hQ3
  have N3 := Fr.app N0 N3q
  have Kc3 : Keep h0 T3.heap [] := K2.trans K3 (allS (Or.inr sz_b2) all0)
  obtain ⟨fs, hr, hrun, hended, hW, hsame⟩ := X3.leave (v := some (.ref b2)) (fun h => by rw [Bd.returns] at h; cases h)
  refine ⟨_, _, pre0 _ ?_, hrun, hended, _, _, rfl, ?_, ⟨_, rfl⟩, hW, hsame.mono (by decide) (by decide)⟩
  · show Steps _ _ _ (s₁.setTop (mkF m 0 #[.val (.long q1), .second, .unset] [])) _
    refine XS.sipush X0.here hx rfl (hb hby d9_0) ?_
    refine XS.istoreN X0.here hx rfl (hb hby d9_3) rfl (l' := #[.val (.long q1), .second, .val (.int (128 : Int32))]) rfl ?_
    refine XS.lloadN X0.here hx rfl (hb hby d9_4) rfl ?_
    show Steps _ _ _ (s₁.setTop (mkF m 5 #[.val (.long q1), .second, .val (.int (128 : Int32))] [(.long q1)])) _
    refine X0.ldc2Long hx hown (mvT hZ (own_w hw 54 rfl)) (g := (mkF m 5 #[.val (.long q1), .second, .val (.int (128 : Int32))] [(.long q1)])) rfl (hb hby d9_5) _ ?_
    show Steps _ _ _ (s₁.setTop (mkF m 8 #[.val (.long q1), .second, .val (.int (128 : Int32))] [(.long (-128 : Int64)), (.long q1)])) _
    refine XS.lcmp X0.here hx rfl (hb hby d9_8) rfl ?_
    refine XS.ifNo X0.here hx rfl (hb hby d9_9) rfl ((if0 _ _).trans (flt hc9).1) ?_
    refine XS.lloadN X0.here hx rfl (hb hby d9_12) rfl ?_
    show Steps _ _ _ (s₁.setTop (mkF m 13 #[.val (.long q1), .second, .val (.int (128 : Int32))] [(.long q1)])) _
    refine X0.ldc2Long hx hown (mvT hZ (own_w hw 313 rfl)) (g := (mkF m 13 #[.val (.long q1), .second, .val (.int (128 : Int32))] [(.long q1)])) rfl (hb hby d9_13) _ ?_
    show Steps _ _ _ (s₁.setTop (mkF m 16 #[.val (.long q1), .second, .val (.int (128 : Int32))] [(.long (127 : Int64)), (.long q1)])) _
    refine XS.lcmp X0.here hx rfl (hb hby d9_16) rfl ?_
    refine XS.ifYes X0.here hx rfl (pc0 := 17) (pc' := 31) rfl (hb hby d9_17) rfl ((if0 _ _).trans (tlt hc17).2.2.1) (by decide) (by decide) ?_
    show Steps _ _ _ (s₁.setTop (mkF m 31 #[.val (.long q1), .second, .val (.int (128 : Int32))] [])) _
    refine st2 _ ?_
    show Steps _ _ _ (T2.setTop (mkF m 34 #[.val (.long q1), .second, .val (.int (128 : Int32))] [(.ref b2)])) _
    refine XS.dup X2.here hx rfl (hb hby d9_34) rfl rfl ?_
    refine XS.lloadN X2.here hx rfl (hb hby d9_35) rfl ?_
    show Steps _ _ _ (T2.setTop (mkF m 36 #[.val (.long q1), .second, .val (.int (128 : Int32))] [(.long q1), (.ref b2), (.ref b2)])) _
    refine st3.trans ?_
    show Steps _ _ _ (T3.setTop (mkF m 39 #[.val (.long q1), .second, .val (.int (128 : Int32))] [(.ref b2)])) _
    jvm_step X3.here [X3.here.top, hx, (hb hby d9_39), X3.method', Bd.returns, Value.isRef, FieldType.isReference]
    first | (intro acts; rw [hr _ acts rfl rfl rfl]) | rw [hr _ _ rfl rfl rfl]
    exact Steps.refl _
  · show Q_lvB Z q1 h0 n0 _ T3.heap _
    exact ⟨_, rfl, N3, own_ext Kc3, Ea3⟩
theorem d9_20 : decode jdk_35_method_24_code 20 = .ok (.getstatic 234, 3) := by decide +kernel
theorem d9_23 : decode jdk_35_method_24_code 23 = .ok (.lload_n 0, 1) := by decide +kernel
theorem d9_24 : decode jdk_35_method_24_code 24 = .ok (.l2i, 1) := by decide +kernel
theorem d9_25 : decode jdk_35_method_24_code 25 = .ok (.sipush 128, 3) := by decide +kernel
theorem d9_28 : decode jdk_35_method_24_code 28 = .ok (.iadd, 1) := by decide +kernel
theorem d9_29 : decode jdk_35_method_24_code 29 = .ok (.aaload, 1) := by decide +kernel
theorem d9_30 : decode jdk_35_method_24_code 30 = .ok (.areturn, 1) := by decide +kernel
def Q_lvC (Z : State) (q1 : Int64) (wC : Addr) (cl_wC : Cell) (wx : Addr) (h0 : Heap) (n0 : Nat) (v : Option Value) (h : Heap) (L : List Loc) : Prop := ∃ b, v = some (.ref b) ∧ Fr n0 L ∧ Ext h0 h ∧ Exa Z h b "java/lang/Long"
theorem rm_lvC (l : Launch) (Z : State) (a0 : Array Value) (hw : ∀ d ∈ tables_1, d.before a0 Z = true) (ws : List Jvm.Cond) (q1 : Int64) (wC : Addr) (cl_wC : Cell) (wx : Addr) (h0 : Heap) (n0 : Nat) (Z0 : n0 ≤ h0.size) (Ol : Old Z n0 h0) (S_cache : Sta Z Z.heap "java/lang/Long$LongCache" "cache" "[Ljava/lang/Long;" (.ref wC)) (Ar_wC : Arr Z h0 wC cl_wC (.object "java/lang/Long")) (E_wx : Exa Z h0 wx "java/lang/Long") (hin : ¬ (((q1.toInt32) + (128 : Int32)) < 0 ∨ cl_wC.slots.size ≤ (((q1.toInt32) + (128 : Int32))).toNatClampNeg)) (hat : cl_wC.slots[(((q1.toInt32) + (128 : Int32))).toNatClampNeg]? = some (.ref wx)) (hc9 : ¬ ((lcmpW q1 (-128 : Int64)) < (0 : Int32))) (hc17 : ¬ ((0 : Int32) < (lcmpW q1 (127 : Int64)))) :
    MetFree l own_y1 (head1 (Jvm.Cond.code own_y1 jdk_35_method_24_code 3 (some (.object "java/lang/Long")) :: ws) own_r1) (fun a U => a = #[(.long q1)] ∧ Z.Warmed39 U.vm ∧ U.heap = h0) (fun _ _ _ _ _ => True) (fun _ U o U' => ∃ v L, o = .returned v ∧ Q_lvC Z q1 wC cl_wC wx h0 n0 v U'.heap L ∧ FrameEnd U o U' L own_r1.cells own_r1.slots) := by
  refine MetFree.of_bodySF (plainFor_of_name pn_9) hisR ?_
  intro p e s m args below meth c s₁ Bd hml0 hP hK
  obtain ⟨rfl, hZ, hh⟩ := hP
  have hx := Bd.exec
  have hby := Bd.bytes
  have hml : c.maxLocals = 3 := hml0
  have hown : s.vm.findClass "java/lang/Long" = some m.cls := findClass_of_methodNamed Bd.named
  have hnm := (name_of_methodNamed Bd.named Bd.method).1
  have X0 : Stand p l e own_r1 s m #[(.long q1)] below meth c s₁ [] 0 0 := Stand.of_body Bd
  have e0 : s₁.heap = h0 := by rw [← hh, Bd.state]; rfl
  have N0 := Fr.nil n0
  have pre0 : ∀ t, Steps p.tables e below (s₁.setTop (mkF m 0 #[.val (.long q1), .second, .unset] [])) t → Steps p.tables e below (s₁.setTop (entryFrame m #[(.long q1)] 3)) t := fun t k => castTop (ef_9 m q1) k
  obtain ⟨T2, X2, e2, st2⟩ := getS2 X0 hx hZ hown (host := "") (Or.inl (own_w hw 314 rfl)) Via.refl e0 (S_cache.ext Ol.2) (g := (mkF m 20 #[.val (.long q1), .second, .val (.int (128 : Int32))] [])) rfl (hb hby d9_20)
  obtain ⟨fs, hr, hrun, hended, hW, hsame⟩ := X2.leave (v := some (.ref wx)) (fun h => by rw [Bd.returns] at h; cases h)
  refine ⟨_, _, pre0 _ ?_, hrun, hended, _, _, rfl, ?_, ⟨_, rfl⟩, hW, hsame.mono (by decide) (by decide)⟩
  · show Steps _ _ _ (s₁.setTop (mkF m 0 #[.val (.long q1), .second, .unset] [])) _
    refine XS.sipush X0.here hx rfl (hb hby d9_0) ?_
    refine XS.istoreN X0.here hx rfl (hb hby d9_3) rfl (l' := #[.val (.long q1), .second, .val (.int (128 : Int32))]) rfl ?_
    refine XS.lloadN X0.here hx rfl (hb hby d9_4) rfl ?_
    show Steps _ _ _ (s₁.setTop (mkF m 5 #[.val (.long q1), .second, .val (.int (128 : Int32))] [(.long q1)])) _
    refine X0.ldc2Long hx hown (mvT hZ (own_w hw 54 rfl)) (g := (mkF m 5 #[.val (.long q1), .second, .val (.int (128 : Int32))] [(.long q1)])) rfl (hb hby d9_5) _ ?_
    show Steps _ _ _ (s₁.setTop (mkF m 8 #[.val (.long q1), .second, .val (.int (128 : Int32))] [(.long (-128 : Int64)), (.long q1)])) _
    refine XS.lcmp X0.here hx rfl (hb hby d9_8) rfl ?_
    refine XS.ifNo X0.here hx rfl (hb hby d9_9) rfl ((if0 _ _).trans (flt hc9).1) ?_
    refine XS.lloadN X0.here hx rfl (hb hby d9_12) rfl ?_
    show Steps _ _ _ (s₁.setTop (mkF m 13 #[.val (.long q1), .second, .val (.int (128 : Int32))] [(.long q1)])) _
    refine X0.ldc2Long hx hown (mvT hZ (own_w hw 313 rfl)) (g := (mkF m 13 #[.val (.long q1), .second, .val (.int (128 : Int32))] [(.long q1)])) rfl (hb hby d9_13) _ ?_
    show Steps _ _ _ (s₁.setTop (mkF m 16 #[.val (.long q1), .second, .val (.int (128 : Int32))] [(.long (127 : Int64)), (.long q1)])) _
    refine XS.lcmp X0.here hx rfl (hb hby d9_16) rfl ?_
    refine XS.ifNo X0.here hx rfl (hb hby d9_17) rfl ((if0 _ _).trans (flt hc17).2.2.1) ?_
    show Steps _ _ _ (s₁.setTop (mkF m 20 #[.val (.long q1), .second, .val (.int (128 : Int32))] [])) _
    refine st2 _ ?_
    show Steps _ _ _ (T2.setTop (mkF m 23 #[.val (.long q1), .second, .val (.int (128 : Int32))] [(.ref wC)])) _
    refine XS.lloadN X2.here hx rfl (hb hby d9_23) rfl ?_
    refine XS.l2i X2.here hx rfl (hb hby d9_24) rfl ?_
    refine XS.sipush X2.here hx rfl (hb hby d9_25) ?_
    refine XS.iadd X2.here hx rfl (hb hby d9_28) rfl ?_
    show Steps _ _ _ (T2.setTop (mkF m 29 #[.val (.long q1), .second, .val (.int (128 : Int32))] [(.int ((q1.toInt32) + (128 : Int32))), (.ref wC)])) _
    refine X2.aaload hx (j := ((q1.toInt32) + (128 : Int32))) (v := (.ref wx)) (by rw [e2]; exact Ar_wC.1) (State.isArrayOf_alike hZ.alike Ar_wC.2.1) rfl Ar_wC.2.2 hin hat (g := (mkF m 29 #[.val (.long q1), .second, .val (.int (128 : Int32))] [(.int ((q1.toInt32) + (128 : Int32))), (.ref wC)])) rfl rfl (hb hby d9_29) _ ?_
    show Steps _ _ _ (T2.setTop (mkF m 30 #[.val (.long q1), .second, .val (.int (128 : Int32))] [(.ref wx)])) _
    jvm_step X2.here [X2.here.top, hx, (hb hby d9_30), X2.method', Bd.returns, Value.isRef, FieldType.isReference]
    first | (intro acts; rw [hr _ acts rfl rfl rfl]) | rw [hr _ _ rfl rfl rfl]
    exact Steps.refl _
  · show Q_lvC Z q1 wC cl_wC wx h0 n0 _ T2.heap _
    rw [e2]
    exact ⟨_, rfl, N0, ⟨Nat.le_refl _, fun _ _ q => q⟩, E_wx⟩
theorem d18_0 : decode jdk_72_method_26_code 0 = .ok (.getstatic 81, 3) := by decide +kernel
theorem d18_3 : decode jdk_72_method_26_code 3 = .ok (.areturn, 1) := by decide +kernel
theorem pn_18 : plainName "java/util/Map" = true := by first | (simp [plainName, overriddenIn]; done) | decide +kernel
theorem ef_18 (m : MethodId)  : entryFrame m #[] 0 = mkF m 0 #[] [] := by first | (simp [entryFrame, mkF, argsToLocals, Value.category]; done) | rfl
def Q_mapof (Z : State) (wM : Addr) (h0 : Heap) (n0 : Nat) (v : Option Value) (h : Heap) (L : List Loc) : Prop := v = some (.ref wM) ∧ Fr n0 L ∧ h = h0
theorem rm_mapof (l : Launch) (Z : State) (a0 : Array Value) (hw : ∀ d ∈ tables_1, d.before a0 Z = true) (ws : List Jvm.Cond) (wM : Addr) (h0 : Heap) (n0 : Nat) (Z0 : n0 ≤ h0.size) (Ol : Old Z n0 h0) (S_EMPTY_MAP : Sta Z Z.heap "java/util/ImmutableCollections" "EMPTY_MAP" "Ljava/util/ImmutableCollections$MapN;" (.ref wM)) :
    MetFree l own_y21 (head1 (Jvm.Cond.code own_y21 jdk_72_method_26_code 0 (some (.object "java/util/Map")) :: ws) own_r0) (fun a U => a = #[] ∧ Z.Warmed39 U.vm ∧ U.heap = h0) (fun _ _ _ _ _ => True) (fun _ U o U' => ∃ v L, o = .returned v ∧ Q_mapof Z wM h0 n0 v U'.heap L ∧ FrameEnd U o U' L own_r0.cells own_r0.slots) := by
  refine MetFree.of_bodySF (plainFor_of_name pn_18) hisR ?_
  intro p e s m args below meth c s₁ Bd hml0 hP hK
  obtain ⟨rfl, hZ, hh⟩ := hP
  have hx := Bd.exec
  have hby := Bd.bytes
  have hml : c.maxLocals = 0 := hml0
  have hown : s.vm.findClass "java/util/Map" = some m.cls := findClass_of_methodNamed Bd.named
  have hnm := (name_of_methodNamed Bd.named Bd.method).1
  have X0 : Stand p l e own_r0 s m #[] below meth c s₁ [] 0 0 := Stand.of_body Bd
  have e0 : s₁.heap = h0 := by rw [← hh, Bd.state]; rfl
  have N0 := Fr.nil n0
  have pre0 : ∀ t, Steps p.tables e below (s₁.setTop (mkF m 0 #[] [])) t → Steps p.tables e below (s₁.setTop (entryFrame m #[] 0)) t := fun t k => castTop (ef_18 m ) k
  obtain ⟨T1, X1, e1, st1⟩ := getS2 X0 hx hZ hown (host := "") (Or.inl (own_w hw 118 rfl)) Via.refl e0 (S_EMPTY_MAP.ext Ol.2) (g := (mkF m 0 #[] [])) rfl (hb hby d18_0)
  obtain ⟨fs, hr, hrun, hended, hW, hsame⟩ := X1.leave (v := some (.ref wM)) (fun h => by rw [Bd.returns] at h; cases h)
  refine ⟨_, _, pre0 _ ?_, hrun, hended, _, _, rfl, ?_, ⟨_, rfl⟩, hW, hsame.mono (by decide) (by decide)⟩
  · show Steps _ _ _ (s₁.setTop (mkF m 0 #[] [])) _
    refine st1 _ ?_
    show Steps _ _ _ (T1.setTop (mkF m 3 #[] [(.ref wM)])) _
    jvm_step X1.here [X1.here.top, hx, (hb hby d18_3), X1.method', Bd.returns, Value.isRef, FieldType.isReference]
    first | (intro acts; rw [hr _ acts rfl rfl rfl]) | rw [hr _ _ rfl rfl rfl]
    exact Steps.refl _
  · show Q_mapof Z wM h0 n0 _ T1.heap _
    rw [e1]
    exact ⟨rfl, N0, rfl⟩
theorem d26_0 : decode jdk_72_method_39_code 0 = .ok (.aload_n 0, 1) := by decide +kernel
theorem d26_1 : decode jdk_72_method_39_code 1 = .ok (.instanceof 101, 3) := by decide +kernel
theorem d26_4 : decode jdk_72_method_39_code 4 = .ok (.ifCond .eq 5, 3) := by decide +kernel
theorem d26_7 : decode jdk_72_method_39_code 7 = .ok (.aload_n 0, 1) := by decide +kernel
theorem d26_8 : decode jdk_72_method_39_code 8 = .ok (.areturn, 1) := by decide +kernel
theorem pn_26 : plainName "java/util/Map" = true := by first | (simp [plainName, overriddenIn]; done) | decide +kernel
theorem ef_26 (m : MethodId) (x0 : Addr) : entryFrame m #[(.ref x0)] 1 = mkF m 0 #[.val (.ref x0)] [] := by first | (simp [entryFrame, mkF, argsToLocals, Value.category]; done) | rfl
def Q_mcopy (Z : State) (a1 : Addr) (h0 : Heap) (n0 : Nat) (v : Option Value) (h : Heap) (L : List Loc) : Prop := v = some (.ref a1) ∧ Fr n0 L ∧ h = h0
theorem rm_mcopy (l : Launch) (Z : State) (a0 : Array Value) (hw : ∀ d ∈ tables_1, d.before a0 Z = true) (ws : List Jvm.Cond) (a1 : Addr) (h0 : Heap) (n0 : Nat) (Z0 : n0 ≤ h0.size) (E_a1 : Exa Z h0 a1 "java/util/ImmutableCollections$MapN") :
    MetFree l own_y22 (head1 (Jvm.Cond.code own_y22 jdk_72_method_39_code 1 (some (.object "java/util/Map")) :: ws) own_r0) (fun a U => a = #[(.ref a1)] ∧ Z.Warmed39 U.vm ∧ U.heap = h0) (fun _ _ _ _ _ => True) (fun _ U o U' => ∃ v L, o = .returned v ∧ Q_mcopy Z a1 h0 n0 v U'.heap L ∧ FrameEnd U o U' L own_r0.cells own_r0.slots) := by
  refine MetFree.of_bodySF (plainFor_of_name pn_26) hisR ?_
  intro p e s m args below meth c s₁ Bd hml0 hP hK
  obtain ⟨rfl, hZ, hh⟩ := hP
  have hx := Bd.exec
  have hby := Bd.bytes
  have hml : c.maxLocals = 1 := hml0
  have hown : s.vm.findClass "java/util/Map" = some m.cls := findClass_of_methodNamed Bd.named
  have hnm := (name_of_methodNamed Bd.named Bd.method).1
  have X0 : Stand p l e own_r0 s m #[(.ref a1)] below meth c s₁ [] 0 0 := Stand.of_body Bd
  have e0 : s₁.heap = h0 := by rw [← hh, Bd.state]; rfl
  have N0 := Fr.nil n0
  have pre0 : ∀ t, Steps p.tables e below (s₁.setTop (mkF m 0 #[.val (.ref a1)] [])) t → Steps p.tables e below (s₁.setTop (entryFrame m #[(.ref a1)] 1)) t := fun t k => castTop (ef_26 m a1) k
  obtain ⟨T2, X2, e2, st2⟩ := instY X0 hx hZ hown (own_w hw 165 rfl) e0 (Ins.of_exa E_a1 (own_w hw 166 rfl)) (g := (mkF m 1 #[.val (.ref a1)] [(.ref a1)])) rfl rfl (hb hby d26_1)
  obtain ⟨fs, hr, hrun, hended, hW, hsame⟩ := X2.leave (v := some (.ref a1)) (fun h => by rw [Bd.returns] at h; cases h)
  refine ⟨_, _, pre0 _ ?_, hrun, hended, _, _, rfl, ?_, ⟨_, rfl⟩, hW, hsame.mono (by decide) (by decide)⟩
  · show Steps _ _ _ (s₁.setTop (mkF m 0 #[.val (.ref a1)] [])) _
    refine XS.aloadN X0.here hx rfl (hb hby d26_0) rfl rfl ?_
    show Steps _ _ _ (s₁.setTop (mkF m 1 #[.val (.ref a1)] [(.ref a1)])) _
    refine st2 _ ?_
    show Steps _ _ _ (T2.setTop (mkF m 4 #[.val (.ref a1)] [(.int (1 : Int32))])) _
    refine XS.ifNo X2.here hx rfl (hb hby d26_4) rfl ((if0 _ _).trans (feq (by decide : ¬ ((1 : Int32) = (0 : Int32)))).1) ?_
    refine XS.aloadN X2.here hx rfl (hb hby d26_7) rfl rfl ?_
    show Steps _ _ _ (T2.setTop (mkF m 8 #[.val (.ref a1)] [(.ref a1)])) _
    jvm_step X2.here [X2.here.top, hx, (hb hby d26_8), X2.method', Bd.returns, Value.isRef, FieldType.isReference]
    first | (intro acts; rw [hr _ acts rfl rfl rfl]) | rw [hr _ _ rfl rfl rfl]
    exact Steps.refl _
  · show Q_mcopy Z a1 h0 n0 _ T2.heap _
    rw [e2]
    exact ⟨rfl, N0, rfl⟩
theorem d27_0 : decode jdk_2605_method_7_code 0 = .ok (.aload_n 0, 1) := by decide +kernel
theorem d27_1 : decode jdk_2605_method_7_code 1 = .ok (.getfield 16, 3) := by decide +kernel
theorem d27_4 : decode jdk_2605_method_7_code 4 = .ok (.ifCond .ne 7, 3) := by decide +kernel
theorem d27_7 : decode jdk_2605_method_7_code 7 = .ok (.iconst 1, 1) := by decide +kernel
theorem d27_8 : decode jdk_2605_method_7_code 8 = .ok (.goto 4, 3) := by decide +kernel
theorem d27_12 : decode jdk_2605_method_7_code 12 = .ok (.ireturn, 1) := by decide +kernel
theorem pn_27 : plainName "java/util/ImmutableCollections$MapN" = true := by first | (simp [plainName, overriddenIn]; done) | decide +kernel
theorem ef_27 (m : MethodId) (x0 : Addr) : entryFrame m #[(.ref x0)] 1 = mkF m 0 #[.val (.ref x0)] [] := by first | (simp [entryFrame, mkF, argsToLocals, Value.category]; done) | rfl
def Q_mempty (Z : State) (a1 : Addr) (h0 : Heap) (n0 : Nat) (v : Option Value) (h : Heap) (L : List Loc) : Prop := v = some (.int (1 : Int32)) ∧ Fr n0 L ∧ h = h0
theorem rm_mempty (l : Launch) (Z : State) (a0 : Array Value) (hw : ∀ d ∈ tables_1, d.before a0 Z = true) (ws : List Jvm.Cond) (a1 : Addr) (h0 : Heap) (n0 : Nat) (Z0 : n0 ≤ h0.size) (F_size_a1 : Fld Z h0 a1 "java/util/ImmutableCollections$MapN" "size" "I" (.int (0 : Int32))) :
    MetFree l own_y23 (head1 (Jvm.Cond.code own_y23 jdk_2605_method_7_code 1 (some .boolean) :: ws) own_r0) (fun a U => a = #[(.ref a1)] ∧ Z.Warmed39 U.vm ∧ U.heap = h0) (fun _ _ _ _ _ => True) (fun _ U o U' => ∃ v L, o = .returned v ∧ Q_mempty Z a1 h0 n0 v U'.heap L ∧ FrameEnd U o U' L own_r0.cells own_r0.slots) := by
  refine MetFree.of_bodySF (plainFor_of_name pn_27) hisR ?_
  intro p e s m args below meth c s₁ Bd hml0 hP hK
  obtain ⟨rfl, hZ, hh⟩ := hP
  have hx := Bd.exec
  have hby := Bd.bytes
  have hml : c.maxLocals = 1 := hml0
  have hown : s.vm.findClass "java/util/ImmutableCollections$MapN" = some m.cls := findClass_of_methodNamed Bd.named
  have hnm := (name_of_methodNamed Bd.named Bd.method).1
  have X0 : Stand p l e own_r0 s m #[(.ref a1)] below meth c s₁ [] 0 0 := Stand.of_body Bd
  have e0 : s₁.heap = h0 := by rw [← hh, Bd.state]; rfl
  have N0 := Fr.nil n0
  have pre0 : ∀ t, Steps p.tables e below (s₁.setTop (mkF m 0 #[.val (.ref a1)] [])) t → Steps p.tables e below (s₁.setTop (entryFrame m #[(.ref a1)] 1)) t := fun t k => castTop (ef_27 m a1) k
  obtain ⟨T2, X2, e2, st2⟩ := getF X0 hx hZ hown (host := "") (Or.inl (own_w hw 177 rfl)) Via.refl e0 F_size_a1 (g := (mkF m 1 #[.val (.ref a1)] [(.ref a1)])) rfl rfl (hb hby d27_1)
  obtain ⟨fs, hr, hrun, hended, hW, hsame⟩ := X2.leave (v := some (.int (1 : Int32))) (fun h => by rw [Bd.returns] at h; cases h)
  refine ⟨_, _, pre0 _ ?_, hrun, hended, _, _, rfl, ?_, ⟨_, rfl⟩, hW, hsame.mono (by decide) (by decide)⟩
  · show Steps _ _ _ (s₁.setTop (mkF m 0 #[.val (.ref a1)] [])) _
    refine XS.aloadN X0.here hx rfl (hb hby d27_0) rfl rfl ?_
    show Steps _ _ _ (s₁.setTop (mkF m 1 #[.val (.ref a1)] [(.ref a1)])) _
    refine st2 _ ?_
    show Steps _ _ _ (T2.setTop (mkF m 4 #[.val (.ref a1)] [(.int (0 : Int32))])) _
    refine XS.ifNo X2.here hx rfl (hb hby d27_4) rfl ((if0 _ _).trans (teq (by decide : (0 : Int32) = (0 : Int32))).2) ?_
    refine XS.iconst X2.here hx rfl (hb hby d27_7) ?_
    refine XS.goto X2.here hx rfl (pc0 := 8) (pc' := 12) rfl (hb hby d27_8) (by decide) (by decide) ?_
    show Steps _ _ _ (T2.setTop (mkF m 12 #[.val (.ref a1)] [(.int (1 : Int32))])) _
    exact retN X2 hx (t := .boolean) Bd.returns (by simp) (hb hby d27_12) hr
  · show Q_mempty Z a1 h0 n0 _ T2.heap _
    rw [e2]
    exact ⟨rfl, N0, rfl⟩
theorem d20_0 : decode jdk_30_method_1_code 0 = .ok (.aload_n 0, 1) := by decide +kernel
theorem d20_1 : decode jdk_30_method_1_code 1 = .ok (.invokespecial 1, 3) := by decide +kernel
theorem d20_4 : decode jdk_30_method_1_code 4 = .ok (.return_, 1) := by decide +kernel
theorem pn_20 : plainName "java/lang/Record" = true := by first | (simp [plainName, overriddenIn]; done) | decide +kernel
theorem ef_20 (m : MethodId) (x0 : Addr) : entryFrame m #[(.ref x0)] 1 = mkF m 0 #[.val (.ref x0)] [] := by first | (simp [entryFrame, mkF, argsToLocals, Value.category]; done) | rfl
def Q_rec (Z : State) (a1 : Addr) (h0 : Heap) (n0 : Nat) (v : Option Value) (h : Heap) (L : List Loc) : Prop := v = none ∧ Fr n0 L ∧ h = h0
theorem rm_rec (l : Launch) (Z : State) (a0 : Array Value) (hw : ∀ d ∈ tables_1, d.before a0 Z = true) (ws : List Jvm.Cond) (a1 : Addr) (h0 : Heap) (n0 : Nat) (Z0 : n0 ≤ h0.size) :
    MetFree l own_y16 (head1 (Jvm.Cond.code own_y16 jdk_30_method_1_code 1 none :: ws) own_r2) (fun a U => a = #[(.ref a1)] ∧ Z.Warmed39 U.vm ∧ U.heap = h0) (fun _ _ _ _ _ => True) (fun _ U o U' => ∃ v L, o = .returned v ∧ Q_rec Z a1 h0 n0 v U'.heap L ∧ FrameEnd U o U' L own_r2.cells own_r2.slots) := by
  refine MetFree.of_bodySF (plainFor_of_name pn_20) hisR ?_
  intro p e s m args below meth c s₁ Bd hml0 hP hK
  obtain ⟨rfl, hZ, hh⟩ := hP
  have hx := Bd.exec
  have hby := Bd.bytes
  have hml : c.maxLocals = 1 := hml0
  have hown : s.vm.findClass "java/lang/Record" = some m.cls := findClass_of_methodNamed Bd.named
  have hnm := (name_of_methodNamed Bd.named Bd.method).1
  have X0 : Stand p l e own_r2 s m #[(.ref a1)] below meth c s₁ [] 0 0 := Stand.of_body Bd
  have e0 : s₁.heap = h0 := by rw [← hh, Bd.state]; rfl
  have N0 := Fr.nil n0
  have pre0 : ∀ t, Steps p.tables e below (s₁.setTop (mkF m 0 #[.val (.ref a1)] [])) t → Steps p.tables e below (s₁.setTop (entryFrame m #[(.ref a1)] 1)) t := fun t k => castTop (ef_20 m a1) k
  obtain ⟨T2, X2, e2, st2⟩ := initO X0 hx hZ hown (own_w hw 128 rfl) (own_w hw 20 rfl) (own_w hw 21 rfl) e0 (g := (mkF m 1 #[.val (.ref a1)] [(.ref a1)])) rfl (by rw [hml]; rfl) rfl (hb hby d20_1) (by decide) (W := 0) (Nat.le_of_eq rfl) (by decide)
  obtain ⟨fs, hr, hrun, hended, hW, hsame⟩ := X2.leave (v := none) (fun _ => rfl)
  refine ⟨_, _, pre0 _ ?_, hrun, hended, _, _, rfl, ?_, ⟨_, rfl⟩, hW, hsame.mono (by decide) (by decide)⟩
  · show Steps _ _ _ (s₁.setTop (mkF m 0 #[.val (.ref a1)] [])) _
    refine XS.aloadN X0.here hx rfl (hb hby d20_0) rfl rfl ?_
    show Steps _ _ _ (s₁.setTop (mkF m 1 #[.val (.ref a1)] [(.ref a1)])) _
    refine st2 _ ?_
    show Steps _ _ _ (T2.setTop (mkF m 4 #[.val (.ref a1)] [])) _
    exact X2.returnOut hx Bd.returns (hb hby d20_4) hr
  · show Q_rec Z a1 h0 n0 _ T2.heap _
    rw [e2]
    exact ⟨rfl, N0, rfl⟩
theorem d21_0 : decode jdk_31_method_11_code 0 = .ok (.aload_n 0, 1) := by decide +kernel
theorem d21_1 : decode jdk_31_method_11_code 1 = .ok (.ifnonnull 12, 3) := by decide +kernel
theorem d21_13 : decode jdk_31_method_11_code 13 = .ok (.aload_n 0, 1) := by decide +kernel
theorem d21_14 : decode jdk_31_method_11_code 14 = .ok (.areturn, 1) := by decide +kernel
theorem pn_21 : plainName "java/util/Objects" = true := by first | (simp [plainName, overriddenIn]; done) | decide +kernel
theorem ef_21 (m : MethodId) (x0 : Addr) (x1 : Addr) : entryFrame m #[(.ref x0), (.ref x1)] 2 = mkF m 0 #[.val (.ref x0), .val (.ref x1)] [] := by first | (simp [entryFrame, mkF, argsToLocals, Value.category]; done) | rfl
def Q_rnn2 (Z : State) (a1 : Addr) (a2 : Addr) (h0 : Heap) (n0 : Nat) (v : Option Value) (h : Heap) (L : List Loc) : Prop := v = some (.ref a1) ∧ Fr n0 L ∧ h = h0
theorem rm_rnn2 (l : Launch) (Z : State) (a0 : Array Value) (hw : ∀ d ∈ tables_1, d.before a0 Z = true) (ws : List Jvm.Cond) (a1 : Addr) (a2 : Addr) (h0 : Heap) (n0 : Nat) (Z0 : n0 ≤ h0.size) :
    MetFree l own_y9 (head1 (Jvm.Cond.code own_y9 jdk_31_method_11_code 2 (some (.object "java/lang/Object")) :: ws) own_r0) (fun a U => a = #[(.ref a1), (.ref a2)] ∧ Z.Warmed39 U.vm ∧ U.heap = h0) (fun _ _ _ _ _ => True) (fun _ U o U' => ∃ v L, o = .returned v ∧ Q_rnn2 Z a1 a2 h0 n0 v U'.heap L ∧ FrameEnd U o U' L own_r0.cells own_r0.slots) := by
  refine MetFree.of_bodySF (plainFor_of_name pn_21) hisR ?_
  intro p e s m args below meth c s₁ Bd hml0 hP hK
  obtain ⟨rfl, hZ, hh⟩ := hP
  have hx := Bd.exec
  have hby := Bd.bytes
  have hml : c.maxLocals = 2 := hml0
  have hown : s.vm.findClass "java/util/Objects" = some m.cls := findClass_of_methodNamed Bd.named
  have hnm := (name_of_methodNamed Bd.named Bd.method).1
  have X0 : Stand p l e own_r0 s m #[(.ref a1), (.ref a2)] below meth c s₁ [] 0 0 := Stand.of_body Bd
  have e0 : s₁.heap = h0 := by rw [← hh, Bd.state]; rfl
  have N0 := Fr.nil n0
  have pre0 : ∀ t, Steps p.tables e below (s₁.setTop (mkF m 0 #[.val (.ref a1), .val (.ref a2)] [])) t → Steps p.tables e below (s₁.setTop (entryFrame m #[(.ref a1), (.ref a2)] 2)) t := fun t k => castTop (ef_21 m a1 a2) k
  obtain ⟨fs, hr, hrun, hended, hW, hsame⟩ := X0.leave (v := some (.ref a1)) (fun h => by rw [Bd.returns] at h; cases h)
  refine ⟨_, _, pre0 _ ?_, hrun, hended, _, _, rfl, ?_, ⟨_, rfl⟩, hW, hsame.mono (by decide) (by decide)⟩
  · show Steps _ _ _ (s₁.setTop (mkF m 0 #[.val (.ref a1), .val (.ref a2)] [])) _
    refine XS.aloadN X0.here hx rfl (hb hby d21_0) rfl rfl ?_
    refine XS.ifnonnullYes X0.here hx rfl (pc0 := 1) (pc' := 13) rfl (hb hby d21_1) rfl (by decide) (by decide) ?_
    refine XS.aloadN X0.here hx rfl (hb hby d21_13) rfl rfl ?_
    show Steps _ _ _ (s₁.setTop (mkF m 14 #[.val (.ref a1), .val (.ref a2)] [(.ref a1)])) _
    jvm_step X0.here [X0.here.top, hx, (hb hby d21_14), X0.method', Bd.returns, Value.isRef, FieldType.isReference]
    first | (intro acts; rw [hr _ acts rfl rfl rfl]) | rw [hr _ _ rfl rfl rfl]
    exact Steps.refl _
  · show Q_rnn2 Z a1 a2 h0 n0 _ s₁.heap _
    rw [e0]
    exact ⟨rfl, N0, rfl⟩
theorem d37_0 : decode jdk_31_method_10_code 0 = .ok (.aload_n 0, 1) := by decide +kernel
theorem d37_1 : decode jdk_31_method_10_code 1 = .ok (.ifnonnull 11, 3) := by decide +kernel
theorem d37_12 : decode jdk_31_method_10_code 12 = .ok (.aload_n 0, 1) := by decide +kernel
theorem d37_13 : decode jdk_31_method_10_code 13 = .ok (.areturn, 1) := by decide +kernel
theorem pn_37 : plainName "java/util/Objects" = true := by first | (simp [plainName, overriddenIn]; done) | decide +kernel
theorem ef_37 (m : MethodId) (x0 : Addr) : entryFrame m #[(.ref x0)] 1 = mkF m 0 #[.val (.ref x0)] [] := by first | (simp [entryFrame, mkF, argsToLocals, Value.category]; done) | rfl
def Q_rnn (Z : State) (a1 : Addr) (h0 : Heap) (n0 : Nat) (v : Option Value) (h : Heap) (L : List Loc) : Prop := v = some (.ref a1) ∧ Fr n0 L ∧ h = h0
theorem rm_rnn (l : Launch) (Z : State) (a0 : Array Value) (hw : ∀ d ∈ tables_1, d.before a0 Z = true) (ws : List Jvm.Cond) (a1 : Addr) (h0 : Heap) (n0 : Nat) (Z0 : n0 ≤ h0.size) :
    MetFree l own_y17 (head1 (Jvm.Cond.code own_y17 jdk_31_method_10_code 1 (some (.object "java/lang/Object")) :: ws) own_r0) (fun a U => a = #[(.ref a1)] ∧ Z.Warmed39 U.vm ∧ U.heap = h0) (fun _ _ _ _ _ => True) (fun _ U o U' => ∃ v L, o = .returned v ∧ Q_rnn Z a1 h0 n0 v U'.heap L ∧ FrameEnd U o U' L own_r0.cells own_r0.slots) := by
  refine MetFree.of_bodySF (plainFor_of_name pn_37) hisR ?_
  intro p e s m args below meth c s₁ Bd hml0 hP hK
  obtain ⟨rfl, hZ, hh⟩ := hP
  have hx := Bd.exec
  have hby := Bd.bytes
  have hml : c.maxLocals = 1 := hml0
  have hown : s.vm.findClass "java/util/Objects" = some m.cls := findClass_of_methodNamed Bd.named
  have hnm := (name_of_methodNamed Bd.named Bd.method).1
  have X0 : Stand p l e own_r0 s m #[(.ref a1)] below meth c s₁ [] 0 0 := Stand.of_body Bd
  have e0 : s₁.heap = h0 := by rw [← hh, Bd.state]; rfl
  have N0 := Fr.nil n0
  have pre0 : ∀ t, Steps p.tables e below (s₁.setTop (mkF m 0 #[.val (.ref a1)] [])) t → Steps p.tables e below (s₁.setTop (entryFrame m #[(.ref a1)] 1)) t := fun t k => castTop (ef_37 m a1) k
  obtain ⟨fs, hr, hrun, hended, hW, hsame⟩ := X0.leave (v := some (.ref a1)) (fun h => by rw [Bd.returns] at h; cases h)
  refine ⟨_, _, pre0 _ ?_, hrun, hended, _, _, rfl, ?_, ⟨_, rfl⟩, hW, hsame.mono (by decide) (by decide)⟩
  · show Steps _ _ _ (s₁.setTop (mkF m 0 #[.val (.ref a1)] [])) _
    refine XS.aloadN X0.here hx rfl (hb hby d37_0) rfl rfl ?_
    refine XS.ifnonnullYes X0.here hx rfl (pc0 := 1) (pc' := 12) rfl (hb hby d37_1) rfl (by decide) (by decide) ?_
    refine XS.aloadN X0.here hx rfl (hb hby d37_12) rfl rfl ?_
    show Steps _ _ _ (s₁.setTop (mkF m 13 #[.val (.ref a1)] [(.ref a1)])) _
    jvm_step X0.here [X0.here.top, hx, (hb hby d37_13), X0.method', Bd.returns, Value.isRef, FieldType.isReference]
    first | (intro acts; rw [hr _ acts rfl rfl rfl]) | rw [hr _ _ rfl rfl rfl]
    exact Steps.refl _
  · show Q_rnn Z a1 h0 n0 _ s₁.heap _
    rw [e0]
    exact ⟨rfl, N0, rfl⟩
theorem d24_0 : decode jdk_38_method_9_code 0 = .ok (.aload_n 0, 1) := by decide +kernel
theorem d24_1 : decode jdk_38_method_9_code 1 = .ok (.getfield 48, 3) := by decide +kernel
theorem d24_4 : decode jdk_38_method_9_code 4 = .ok (.ifCond .ne 7, 3) := by decide +kernel
theorem d24_7 : decode jdk_38_method_9_code 7 = .ok (.iconst 1, 1) := by decide +kernel
theorem d24_8 : decode jdk_38_method_9_code 8 = .ok (.goto 4, 3) := by decide +kernel
theorem d24_12 : decode jdk_38_method_9_code 12 = .ok (.ireturn, 1) := by decide +kernel
theorem pn_24 : plainName "java/util/ArrayList" = true := by first | (simp [plainName, overriddenIn]; done) | decide +kernel
theorem ef_24 (m : MethodId) (x0 : Addr) : entryFrame m #[(.ref x0)] 1 = mkF m 0 #[.val (.ref x0)] [] := by first | (simp [entryFrame, mkF, argsToLocals, Value.category]; done) | rfl
def Q_isE (Z : State) (a1 : Addr) (h0 : Heap) (n0 : Nat) (v : Option Value) (h : Heap) (L : List Loc) : Prop := v = some (.int (1 : Int32)) ∧ Fr n0 L ∧ h = h0
theorem rm_isE (l : Launch) (Z : State) (a0 : Array Value) (hw : ∀ d ∈ tables_1, d.before a0 Z = true) (ws : List Jvm.Cond) (a1 : Addr) (h0 : Heap) (n0 : Nat) (Z0 : n0 ≤ h0.size) (F_size_a1 : Fld Z h0 a1 "java/util/ArrayList" "size" "I" (.int (0 : Int32))) :
    MetFree l own_y18 (head1 (Jvm.Cond.code own_y18 jdk_38_method_9_code 1 (some .boolean) :: ws) own_r0) (fun a U => a = #[(.ref a1)] ∧ Z.Warmed39 U.vm ∧ U.heap = h0) (fun _ _ _ _ _ => True) (fun _ U o U' => ∃ v L, o = .returned v ∧ Q_isE Z a1 h0 n0 v U'.heap L ∧ FrameEnd U o U' L own_r0.cells own_r0.slots) := by
  refine MetFree.of_bodySF (plainFor_of_name pn_24) hisR ?_
  intro p e s m args below meth c s₁ Bd hml0 hP hK
  obtain ⟨rfl, hZ, hh⟩ := hP
  have hx := Bd.exec
  have hby := Bd.bytes
  have hml : c.maxLocals = 1 := hml0
  have hown : s.vm.findClass "java/util/ArrayList" = some m.cls := findClass_of_methodNamed Bd.named
  have hnm := (name_of_methodNamed Bd.named Bd.method).1
  have X0 : Stand p l e own_r0 s m #[(.ref a1)] below meth c s₁ [] 0 0 := Stand.of_body Bd
  have e0 : s₁.heap = h0 := by rw [← hh, Bd.state]; rfl
  have N0 := Fr.nil n0
  have pre0 : ∀ t, Steps p.tables e below (s₁.setTop (mkF m 0 #[.val (.ref a1)] [])) t → Steps p.tables e below (s₁.setTop (entryFrame m #[(.ref a1)] 1)) t := fun t k => castTop (ef_24 m a1) k
  obtain ⟨T2, X2, e2, st2⟩ := getF X0 hx hZ hown (host := "") (Or.inl (own_w hw 81 rfl)) Via.refl e0 F_size_a1 (g := (mkF m 1 #[.val (.ref a1)] [(.ref a1)])) rfl rfl (hb hby d24_1)
  obtain ⟨fs, hr, hrun, hended, hW, hsame⟩ := X2.leave (v := some (.int (1 : Int32))) (fun h => by rw [Bd.returns] at h; cases h)
  refine ⟨_, _, pre0 _ ?_, hrun, hended, _, _, rfl, ?_, ⟨_, rfl⟩, hW, hsame.mono (by decide) (by decide)⟩
  · show Steps _ _ _ (s₁.setTop (mkF m 0 #[.val (.ref a1)] [])) _
    refine XS.aloadN X0.here hx rfl (hb hby d24_0) rfl rfl ?_
    show Steps _ _ _ (s₁.setTop (mkF m 1 #[.val (.ref a1)] [(.ref a1)])) _
    refine st2 _ ?_
    show Steps _ _ _ (T2.setTop (mkF m 4 #[.val (.ref a1)] [(.int (0 : Int32))])) _
    refine XS.ifNo X2.here hx rfl (hb hby d24_4) rfl ((if0 _ _).trans (teq (by decide : (0 : Int32) = (0 : Int32))).2) ?_
    refine XS.iconst X2.here hx rfl (hb hby d24_7) ?_
    refine XS.goto X2.here hx rfl (pc0 := 8) (pc' := 12) rfl (hb hby d24_8) (by decide) (by decide) ?_
    show Steps _ _ _ (T2.setTop (mkF m 12 #[.val (.ref a1)] [(.int (1 : Int32))])) _
    exact retN X2 hx (t := .boolean) Bd.returns (by simp) (hb hby d24_12) hr
  · show Q_isE Z a1 h0 n0 _ T2.heap _
    rw [e2]
    exact ⟨rfl, N0, rfl⟩
theorem d24_11 : decode jdk_38_method_9_code 11 = .ok (.iconst 0, 1) := by decide +kernel
def Q_isN (Z : State) (a1 : Addr) (w2 : Int32) (h0 : Heap) (n0 : Nat) (v : Option Value) (h : Heap) (L : List Loc) : Prop := v = some (.int (0 : Int32)) ∧ Fr n0 L ∧ h = h0
theorem rm_isN (l : Launch) (Z : State) (a0 : Array Value) (hw : ∀ d ∈ tables_1, d.before a0 Z = true) (ws : List Jvm.Cond) (a1 : Addr) (w2 : Int32) (h0 : Heap) (n0 : Nat) (Z0 : n0 ≤ h0.size) (F_size_a1 : Fld Z h0 a1 "java/util/ArrayList" "size" "I" (.int w2)) (hc4 : ¬ (w2 = (0 : Int32))) :
    MetFree l own_y18 (head1 (Jvm.Cond.code own_y18 jdk_38_method_9_code 1 (some .boolean) :: ws) own_r0) (fun a U => a = #[(.ref a1)] ∧ Z.Warmed39 U.vm ∧ U.heap = h0) (fun _ _ _ _ _ => True) (fun _ U o U' => ∃ v L, o = .returned v ∧ Q_isN Z a1 w2 h0 n0 v U'.heap L ∧ FrameEnd U o U' L own_r0.cells own_r0.slots) := by
  refine MetFree.of_bodySF (plainFor_of_name pn_24) hisR ?_
  intro p e s m args below meth c s₁ Bd hml0 hP hK
  obtain ⟨rfl, hZ, hh⟩ := hP
  have hx := Bd.exec
  have hby := Bd.bytes
  have hml : c.maxLocals = 1 := hml0
  have hown : s.vm.findClass "java/util/ArrayList" = some m.cls := findClass_of_methodNamed Bd.named
  have hnm := (name_of_methodNamed Bd.named Bd.method).1
  have X0 : Stand p l e own_r0 s m #[(.ref a1)] below meth c s₁ [] 0 0 := Stand.of_body Bd
  have e0 : s₁.heap = h0 := by rw [← hh, Bd.state]; rfl
  have N0 := Fr.nil n0
  have pre0 : ∀ t, Steps p.tables e below (s₁.setTop (mkF m 0 #[.val (.ref a1)] [])) t → Steps p.tables e below (s₁.setTop (entryFrame m #[(.ref a1)] 1)) t := fun t k => castTop (ef_24 m a1) k
  obtain ⟨T3, X3, e3, st3⟩ := getF X0 hx hZ hown (host := "") (Or.inl (own_w hw 81 rfl)) Via.refl e0 F_size_a1 (g := (mkF m 1 #[.val (.ref a1)] [(.ref a1)])) rfl rfl (hb hby d24_1)
  obtain ⟨fs, hr, hrun, hended, hW, hsame⟩ := X3.leave (v := some (.int (0 : Int32))) (fun h => by rw [Bd.returns] at h; cases h)
  refine ⟨_, _, pre0 _ ?_, hrun, hended, _, _, rfl, ?_, ⟨_, rfl⟩, hW, hsame.mono (by decide) (by decide)⟩
  · show Steps _ _ _ (s₁.setTop (mkF m 0 #[.val (.ref a1)] [])) _
    refine XS.aloadN X0.here hx rfl (hb hby d24_0) rfl rfl ?_
    show Steps _ _ _ (s₁.setTop (mkF m 1 #[.val (.ref a1)] [(.ref a1)])) _
    refine st3 _ ?_
    show Steps _ _ _ (T3.setTop (mkF m 4 #[.val (.ref a1)] [(.int w2)])) _
    refine XS.ifYes X3.here hx rfl (pc0 := 4) (pc' := 11) rfl (hb hby d24_4) rfl ((if0 _ _).trans (feq hc4).2) (by decide) (by decide) ?_
    refine XS.iconst X3.here hx rfl (hb hby d24_11) ?_
    show Steps _ _ _ (T3.setTop (mkF m 12 #[.val (.ref a1)] [(.int (0 : Int32))])) _
    exact retN X3 hx (t := .boolean) Bd.returns (by simp) (hb hby d24_12) hr
  · show Q_isN Z a1 w2 h0 n0 _ T3.heap _
    rw [e3]
    exact ⟨rfl, N0, rfl⟩
theorem d25_0 : decode jdk_40_method_36_code 0 = .ok (.getstatic 90, 3) := by decide +kernel
theorem d25_3 : decode jdk_40_method_36_code 3 = .ok (.areturn, 1) := by decide +kernel
theorem pn_25 : plainName "java/util/List" = true := by first | (simp [plainName, overriddenIn]; done) | decide +kernel
theorem ef_25 (m : MethodId)  : entryFrame m #[] 0 = mkF m 0 #[] [] := by first | (simp [entryFrame, mkF, argsToLocals, Value.category]; done) | rfl
def Q_lof (Z : State) (wL : Addr) (h0 : Heap) (n0 : Nat) (v : Option Value) (h : Heap) (L : List Loc) : Prop := v = some (.ref wL) ∧ Fr n0 L ∧ h = h0
theorem rm_lof (l : Launch) (Z : State) (a0 : Array Value) (hw : ∀ d ∈ tables_1, d.before a0 Z = true) (ws : List Jvm.Cond) (wL : Addr) (h0 : Heap) (n0 : Nat) (Z0 : n0 ≤ h0.size) (Ol : Old Z n0 h0) (S_EMPTY_LIST : Sta Z Z.heap "java/util/ImmutableCollections" "EMPTY_LIST" "Ljava/util/ImmutableCollections$ListN;" (.ref wL)) :
    MetFree l own_y43 (head1 (Jvm.Cond.code own_y43 jdk_40_method_36_code 0 (some (.object "java/util/List")) :: ws) own_r0) (fun a U => a = #[] ∧ Z.Warmed39 U.vm ∧ U.heap = h0) (fun _ _ _ _ _ => True) (fun _ U o U' => ∃ v L, o = .returned v ∧ Q_lof Z wL h0 n0 v U'.heap L ∧ FrameEnd U o U' L own_r0.cells own_r0.slots) := by
  refine MetFree.of_bodySF (plainFor_of_name pn_25) hisR ?_
  intro p e s m args below meth c s₁ Bd hml0 hP hK
  obtain ⟨rfl, hZ, hh⟩ := hP
  have hx := Bd.exec
  have hby := Bd.bytes
  have hml : c.maxLocals = 0 := hml0
  have hown : s.vm.findClass "java/util/List" = some m.cls := findClass_of_methodNamed Bd.named
  have hnm := (name_of_methodNamed Bd.named Bd.method).1
  have X0 : Stand p l e own_r0 s m #[] below meth c s₁ [] 0 0 := Stand.of_body Bd
  have e0 : s₁.heap = h0 := by rw [← hh, Bd.state]; rfl
  have N0 := Fr.nil n0
  have pre0 : ∀ t, Steps p.tables e below (s₁.setTop (mkF m 0 #[] [])) t → Steps p.tables e below (s₁.setTop (entryFrame m #[] 0)) t := fun t k => castTop (ef_25 m ) k
  obtain ⟨T1, X1, e1, st1⟩ := getS2 X0 hx hZ hown (host := "") (Or.inl (own_w hw 161 rfl)) Via.refl e0 (S_EMPTY_LIST.ext Ol.2) (g := (mkF m 0 #[] [])) rfl (hb hby d25_0)
  obtain ⟨fs, hr, hrun, hended, hW, hsame⟩ := X1.leave (v := some (.ref wL)) (fun h => by rw [Bd.returns] at h; cases h)
  refine ⟨_, _, pre0 _ ?_, hrun, hended, _, _, rfl, ?_, ⟨_, rfl⟩, hW, hsame.mono (by decide) (by decide)⟩
  · show Steps _ _ _ (s₁.setTop (mkF m 0 #[] [])) _
    refine st1 _ ?_
    show Steps _ _ _ (T1.setTop (mkF m 3 #[] [(.ref wL)])) _
    jvm_step X1.here [X1.here.top, hx, (hb hby d25_3), X1.method', Bd.returns, Value.isRef, FieldType.isReference]
    first | (intro acts; rw [hr _ acts rfl rfl rfl]) | rw [hr _ _ rfl rfl rfl]
    exact Steps.refl _
  · show Q_lof Z wL h0 n0 _ T1.heap _
    rw [e1]
    exact ⟨rfl, N0, rfl⟩
theorem d39_0 : decode prog_16_method_8_code 0 = .ok (.aload_n 0, 1) := by decide +kernel
theorem d39_1 : decode prog_16_method_8_code 1 = .ok (.getfield 39, 3) := by decide +kernel
theorem d39_4 : decode prog_16_method_8_code 4 = .ok (.areturn, 1) := by decide +kernel
theorem pn_39 : plainName "com/example/arcrover/arcrover/StateMachine" = true := by first | (simp [plainName, overriddenIn]; done) | decide +kernel
theorem ef_39 (m : MethodId) (x0 : Addr) : entryFrame m #[(.ref x0)] 1 = mkF m 0 #[.val (.ref x0)] [] := by first | (simp [entryFrame, mkF, argsToLocals, Value.category]; done) | rfl
def Q_smt (Z : State) (a1 : Addr) (w2 : Addr) (h0 : Heap) (n0 : Nat) (v : Option Value) (h : Heap) (L : List Loc) : Prop := v = some (.ref w2) ∧ Fr n0 L ∧ h = h0
theorem rm_smt (l : Launch) (Z : State) (a0 : Array Value) (hw : ∀ d ∈ tables_1, d.before a0 Z = true) (ws : List Jvm.Cond) (a1 : Addr) (w2 : Addr) (h0 : Heap) (n0 : Nat) (Z0 : n0 ≤ h0.size) (F_transitions_a1 : Fld Z h0 a1 "com/example/arcrover/arcrover/StateMachine" "transitions" "Ljava/util/List;" (.ref w2)) :
    MetFree l own_y10 (head1 (Jvm.Cond.code own_y10 prog_16_method_8_code 1 (some (.object "java/util/List")) :: ws) own_r0) (fun a U => a = #[(.ref a1)] ∧ Z.Warmed39 U.vm ∧ U.heap = h0) (fun _ _ _ _ _ => True) (fun _ U o U' => ∃ v L, o = .returned v ∧ Q_smt Z a1 w2 h0 n0 v U'.heap L ∧ FrameEnd U o U' L own_r0.cells own_r0.slots) := by
  refine MetFree.of_bodySF (plainFor_of_name pn_39) hisR ?_
  intro p e s m args below meth c s₁ Bd hml0 hP hK
  obtain ⟨rfl, hZ, hh⟩ := hP
  have hx := Bd.exec
  have hby := Bd.bytes
  have hml : c.maxLocals = 1 := hml0
  have hown : s.vm.findClass "com/example/arcrover/arcrover/StateMachine" = some m.cls := findClass_of_methodNamed Bd.named
  have hnm := (name_of_methodNamed Bd.named Bd.method).1
  have X0 : Stand p l e own_r0 s m #[(.ref a1)] below meth c s₁ [] 0 0 := Stand.of_body Bd
  have e0 : s₁.heap = h0 := by rw [← hh, Bd.state]; rfl
  have N0 := Fr.nil n0
  have pre0 : ∀ t, Steps p.tables e below (s₁.setTop (mkF m 0 #[.val (.ref a1)] [])) t → Steps p.tables e below (s₁.setTop (entryFrame m #[(.ref a1)] 1)) t := fun t k => castTop (ef_39 m a1) k
  obtain ⟨T3, X3, e3, st3⟩ := getF X0 hx hZ hown (host := "") (Or.inl (own_w hw 181 rfl)) Via.refl e0 F_transitions_a1 (g := (mkF m 1 #[.val (.ref a1)] [(.ref a1)])) rfl rfl (hb hby d39_1)
  obtain ⟨fs, hr, hrun, hended, hW, hsame⟩ := X3.leave (v := some (.ref w2)) (fun h => by rw [Bd.returns] at h; cases h)
  refine ⟨_, _, pre0 _ ?_, hrun, hended, _, _, rfl, ?_, ⟨_, rfl⟩, hW, hsame.mono (by decide) (by decide)⟩
  · show Steps _ _ _ (s₁.setTop (mkF m 0 #[.val (.ref a1)] [])) _
    refine XS.aloadN X0.here hx rfl (hb hby d39_0) rfl rfl ?_
    show Steps _ _ _ (s₁.setTop (mkF m 1 #[.val (.ref a1)] [(.ref a1)])) _
    refine st3 _ ?_
    show Steps _ _ _ (T3.setTop (mkF m 4 #[.val (.ref a1)] [(.ref w2)])) _
    jvm_step X3.here [X3.here.top, hx, (hb hby d39_4), X3.method', Bd.returns, Value.isRef, FieldType.isReference]
    first | (intro acts; rw [hr _ acts rfl rfl rfl]) | rw [hr _ _ rfl rfl rfl]
    exact Steps.refl _
  · show Q_smt Z a1 w2 h0 n0 _ T3.heap _
    rw [e3]
    exact ⟨rfl, N0, rfl⟩
theorem d40_0 : decode jdk_45_method_3_code 0 = .ok (.aload_n 0, 1) := by decide +kernel
theorem d40_1 : decode jdk_45_method_3_code 1 = .ok (.getfield 7, 3) := by decide +kernel
theorem d40_4 : decode jdk_45_method_3_code 4 = .ok (.arraylength, 1) := by decide +kernel
theorem d40_5 : decode jdk_45_method_3_code 5 = .ok (.ireturn, 1) := by decide +kernel
theorem pn_40 : plainName "java/util/ImmutableCollections$ListN" = true := by first | (simp [plainName, overriddenIn]; done) | decide +kernel
theorem ef_40 (m : MethodId) (x0 : Addr) : entryFrame m #[(.ref x0)] 1 = mkF m 0 #[.val (.ref x0)] [] := by first | (simp [entryFrame, mkF, argsToLocals, Value.category]; done) | rfl
def Q_lnsz (Z : State) (a1 : Addr) (w2 : Addr) (cl_w2 : Cell) (z_w2 : Int32) (h0 : Heap) (n0 : Nat) (v : Option Value) (h : Heap) (L : List Loc) : Prop := v = some (.int z_w2) ∧ Fr n0 L ∧ h = h0
theorem rm_lnsz (l : Launch) (Z : State) (a0 : Array Value) (hw : ∀ d ∈ tables_1, d.before a0 Z = true) (ws : List Jvm.Cond) (a1 : Addr) (w2 : Addr) (cl_w2 : Cell) (z_w2 : Int32) (h0 : Heap) (n0 : Nat) (Z0 : n0 ≤ h0.size) (F_elements_a1 : Fld Z h0 a1 "java/util/ImmutableCollections$ListN" "elements" "[Ljava/lang/Object;" (.ref w2)) (Ar_w2 : Arr Z h0 w2 cl_w2 (.object "java/lang/Object")) (S_w2 : cl_w2.slots.size = z_w2.toNatClampNeg) (N_w2 : ¬ z_w2 < 0) :
    MetFree l own_y31 (head1 (Jvm.Cond.code own_y31 jdk_45_method_3_code 1 (some .int) :: ws) own_r0) (fun a U => a = #[(.ref a1)] ∧ Z.Warmed39 U.vm ∧ U.heap = h0) (fun _ _ _ _ _ => True) (fun _ U o U' => ∃ v L, o = .returned v ∧ Q_lnsz Z a1 w2 cl_w2 z_w2 h0 n0 v U'.heap L ∧ FrameEnd U o U' L own_r0.cells own_r0.slots) := by
  refine MetFree.of_bodySF (plainFor_of_name pn_40) hisR ?_
  intro p e s m args below meth c s₁ Bd hml0 hP hK
  obtain ⟨rfl, hZ, hh⟩ := hP
  have hx := Bd.exec
  have hby := Bd.bytes
  have hml : c.maxLocals = 1 := hml0
  have hown : s.vm.findClass "java/util/ImmutableCollections$ListN" = some m.cls := findClass_of_methodNamed Bd.named
  have hnm := (name_of_methodNamed Bd.named Bd.method).1
  have X0 : Stand p l e own_r0 s m #[(.ref a1)] below meth c s₁ [] 0 0 := Stand.of_body Bd
  have e0 : s₁.heap = h0 := by rw [← hh, Bd.state]; rfl
  have N0 := Fr.nil n0
  have pre0 : ∀ t, Steps p.tables e below (s₁.setTop (mkF m 0 #[.val (.ref a1)] [])) t → Steps p.tables e below (s₁.setTop (entryFrame m #[(.ref a1)] 1)) t := fun t k => castTop (ef_40 m a1) k
  obtain ⟨T3, X3, e3, st3⟩ := getF X0 hx hZ hown (host := "") (Or.inl (own_w hw 290 rfl)) Via.refl e0 F_elements_a1 (g := (mkF m 1 #[.val (.ref a1)] [(.ref a1)])) rfl rfl (hb hby d40_1)
  obtain ⟨fs, hr, hrun, hended, hW, hsame⟩ := X3.leave (v := some (.int z_w2)) (fun h => by rw [Bd.returns] at h; cases h)
  refine ⟨_, _, pre0 _ ?_, hrun, hended, _, _, rfl, ?_, ⟨_, rfl⟩, hW, hsame.mono (by decide) (by decide)⟩
  · show Steps _ _ _ (s₁.setTop (mkF m 0 #[.val (.ref a1)] [])) _
    refine XS.aloadN X0.here hx rfl (hb hby d40_0) rfl rfl ?_
    show Steps _ _ _ (s₁.setTop (mkF m 1 #[.val (.ref a1)] [(.ref a1)])) _
    refine st3 _ ?_
    show Steps _ _ _ (T3.setTop (mkF m 4 #[.val (.ref a1)] [(.ref w2)])) _
    refine X3.arraylength hx (by rw [e3]; exact Ar_w2.1) (State.isArrayOf_alike hZ.alike Ar_w2.2.1) (g := (mkF m 4 #[.val (.ref a1)] [(.ref w2)])) rfl rfl (hb hby d40_4) _ ?_
    rw [len_of S_w2 N_w2]
    show Steps _ _ _ (T3.setTop (mkF m 5 #[.val (.ref a1)] [(.int z_w2)])) _
    exact retI X3 hx Bd.returns (hb hby d40_5) hr
  · show Q_lnsz Z a1 w2 cl_w2 z_w2 h0 n0 _ T3.heap _
    rw [e3]
    exact ⟨rfl, N0, rfl⟩
theorem d45_0 : decode jdk_44_method_3_code 0 = .ok (.aload_n 0, 1) := by decide +kernel
theorem d45_1 : decode jdk_44_method_3_code 1 = .ok (.getfield 24, 3) := by decide +kernel
theorem d45_4 : decode jdk_44_method_3_code 4 = .ok (.getstatic 19, 3) := by decide +kernel
theorem d45_7 : decode jdk_44_method_3_code 7 = .ok (.if_acmp .eq 7, 3) := by decide +kernel
theorem d45_14 : decode jdk_44_method_3_code 14 = .ok (.iconst 1, 1) := by decide +kernel
theorem d45_15 : decode jdk_44_method_3_code 15 = .ok (.ireturn, 1) := by decide +kernel
theorem pn_45 : plainName "java/util/ImmutableCollections$List12" = true := by first | (simp [plainName, overriddenIn]; done) | decide +kernel
theorem ef_45 (m : MethodId) (x0 : Addr) : entryFrame m #[(.ref x0)] 1 = mkF m 0 #[.val (.ref x0)] [] := by first | (simp [entryFrame, mkF, argsToLocals, Value.category]; done) | rfl
def Q_l12a (Z : State) (a1 : Addr) (wO : Addr) (h0 : Heap) (n0 : Nat) (v : Option Value) (h : Heap) (L : List Loc) : Prop := v = some (.int (1 : Int32)) ∧ Fr n0 L ∧ h = h0
theorem rm_l12a (l : Launch) (Z : State) (a0 : Array Value) (hw : ∀ d ∈ tables_1, d.before a0 Z = true) (ws : List Jvm.Cond) (a1 : Addr) (wO : Addr) (h0 : Heap) (n0 : Nat) (Z0 : n0 ≤ h0.size) (Ol : Old Z n0 h0) (S_EMPTY : Sta Z Z.heap "java/util/ImmutableCollections" "EMPTY" "Ljava/lang/Object;" (.ref wO)) (F_e1_a1 : Fld Z h0 a1 "java/util/ImmutableCollections$List12" "e1" "Ljava/lang/Object;" (.ref wO)) :
    MetFree l own_y24 (head1 (Jvm.Cond.code own_y24 jdk_44_method_3_code 1 (some .int) :: ws) own_r0) (fun a U => a = #[(.ref a1)] ∧ Z.Warmed39 U.vm ∧ U.heap = h0) (fun _ _ _ _ _ => True) (fun _ U o U' => ∃ v L, o = .returned v ∧ Q_l12a Z a1 wO h0 n0 v U'.heap L ∧ FrameEnd U o U' L own_r0.cells own_r0.slots) := by
  refine MetFree.of_bodySF (plainFor_of_name pn_45) hisR ?_
  intro p e s m args below meth c s₁ Bd hml0 hP hK
  obtain ⟨rfl, hZ, hh⟩ := hP
  have hx := Bd.exec
  have hby := Bd.bytes
  have hml : c.maxLocals = 1 := hml0
  have hown : s.vm.findClass "java/util/ImmutableCollections$List12" = some m.cls := findClass_of_methodNamed Bd.named
  have hnm := (name_of_methodNamed Bd.named Bd.method).1
  have X0 : Stand p l e own_r0 s m #[(.ref a1)] below meth c s₁ [] 0 0 := Stand.of_body Bd
  have e0 : s₁.heap = h0 := by rw [← hh, Bd.state]; rfl
  have N0 := Fr.nil n0
  have pre0 : ∀ t, Steps p.tables e below (s₁.setTop (mkF m 0 #[.val (.ref a1)] [])) t → Steps p.tables e below (s₁.setTop (entryFrame m #[(.ref a1)] 1)) t := fun t k => castTop (ef_45 m a1) k
  obtain ⟨T2, X2, e2, st2⟩ := getF X0 hx hZ hown (host := "") (Or.inl (own_w hw 250 rfl)) Via.refl e0 F_e1_a1 (g := (mkF m 1 #[.val (.ref a1)] [(.ref a1)])) rfl rfl (hb hby d45_1)
  obtain ⟨T3, X3, e3, st3⟩ := getS2 X2 hx hZ hown (Or.inr (own_w hw 249 rfl)) Via.refl e2 (S_EMPTY.ext Ol.2) (g := (mkF m 4 #[.val (.ref a1)] [(.ref wO)])) rfl (hb hby d45_4)
  obtain ⟨fs, hr, hrun, hended, hW, hsame⟩ := X3.leave (v := some (.int (1 : Int32))) (fun h => by rw [Bd.returns] at h; cases h)
  refine ⟨_, _, pre0 _ ?_, hrun, hended, _, _, rfl, ?_, ⟨_, rfl⟩, hW, hsame.mono (by decide) (by decide)⟩
  · show Steps _ _ _ (s₁.setTop (mkF m 0 #[.val (.ref a1)] [])) _
    refine XS.aloadN X0.here hx rfl (hb hby d45_0) rfl rfl ?_
    show Steps _ _ _ (s₁.setTop (mkF m 1 #[.val (.ref a1)] [(.ref a1)])) _
    refine st2 _ ?_
    show Steps _ _ _ (T2.setTop (mkF m 4 #[.val (.ref a1)] [(.ref wO)])) _
    refine st3 _ ?_
    show Steps _ _ _ (T3.setTop (mkF m 7 #[.val (.ref a1)] [(.ref wO), (.ref wO)])) _
    refine Jvm.RoadKit.acmp (g := (mkF m 7 #[.val (.ref a1)] [(.ref wO), (.ref wO)])) X3 hx rfl rfl rfl (pc0 := 7) (pc' := 14) (same := true) rfl (hb hby d45_7) rfl (decide_eq_true rfl) (by decide) (by decide) ?_
    show Steps _ _ _ (T3.setTop (mkF m 14 #[.val (.ref a1)] [])) _
    refine XS.iconst X3.here hx rfl (hb hby d45_14) ?_
    show Steps _ _ _ (T3.setTop (mkF m 15 #[.val (.ref a1)] [(.int (1 : Int32))])) _
    exact retI X3 hx Bd.returns (hb hby d45_15) hr
  · show Q_l12a Z a1 wO h0 n0 _ T3.heap _
    rw [e3]
    exact ⟨rfl, N0, rfl⟩
theorem d45_10 : decode jdk_44_method_3_code 10 = .ok (.iconst 2, 1) := by decide +kernel
theorem d45_11 : decode jdk_44_method_3_code 11 = .ok (.goto 4, 3) := by decide +kernel
def Q_l12b (Z : State) (a1 : Addr) (wO : Addr) (w2 : Addr) (h0 : Heap) (n0 : Nat) (v : Option Value) (h : Heap) (L : List Loc) : Prop := v = some (.int (2 : Int32)) ∧ Fr n0 L ∧ h = h0
theorem rm_l12b (l : Launch) (Z : State) (a0 : Array Value) (hw : ∀ d ∈ tables_1, d.before a0 Z = true) (ws : List Jvm.Cond) (a1 : Addr) (wO : Addr) (w2 : Addr) (h0 : Heap) (n0 : Nat) (Z0 : n0 ≤ h0.size) (Ol : Old Z n0 h0) (S_EMPTY : Sta Z Z.heap "java/util/ImmutableCollections" "EMPTY" "Ljava/lang/Object;" (.ref wO)) (F_e1_a1 : Fld Z h0 a1 "java/util/ImmutableCollections$List12" "e1" "Ljava/lang/Object;" (.ref w2)) (ha7 : ¬ (w2 = wO)) :
    MetFree l own_y24 (head1 (Jvm.Cond.code own_y24 jdk_44_method_3_code 1 (some .int) :: ws) own_r0) (fun a U => a = #[(.ref a1)] ∧ Z.Warmed39 U.vm ∧ U.heap = h0) (fun _ _ _ _ _ => True) (fun _ U o U' => ∃ v L, o = .returned v ∧ Q_l12b Z a1 wO w2 h0 n0 v U'.heap L ∧ FrameEnd U o U' L own_r0.cells own_r0.slots) := by
  refine MetFree.of_bodySF (plainFor_of_name pn_45) hisR ?_
  intro p e s m args below meth c s₁ Bd hml0 hP hK
  obtain ⟨rfl, hZ, hh⟩ := hP
  have hx := Bd.exec
  have hby := Bd.bytes
  have hml : c.maxLocals = 1 := hml0
  have hown : s.vm.findClass "java/util/ImmutableCollections$List12" = some m.cls := findClass_of_methodNamed Bd.named
  have hnm := (name_of_methodNamed Bd.named Bd.method).1
  have X0 : Stand p l e own_r0 s m #[(.ref a1)] below meth c s₁ [] 0 0 := Stand.of_body Bd
  have e0 : s₁.heap = h0 := by rw [← hh, Bd.state]; rfl
  have N0 := Fr.nil n0
  have pre0 : ∀ t, Steps p.tables e below (s₁.setTop (mkF m 0 #[.val (.ref a1)] [])) t → Steps p.tables e below (s₁.setTop (entryFrame m #[(.ref a1)] 1)) t := fun t k => castTop (ef_45 m a1) k
  obtain ⟨T3, X3, e3, st3⟩ := getF X0 hx hZ hown (host := "") (Or.inl (own_w hw 250 rfl)) Via.refl e0 F_e1_a1 (g := (mkF m 1 #[.val (.ref a1)] [(.ref a1)])) rfl rfl (hb hby d45_1)
  obtain ⟨T4, X4, e4, st4⟩ := getS2 X3 hx hZ hown (Or.inr (own_w hw 249 rfl)) Via.refl e3 (S_EMPTY.ext Ol.2) (g := (mkF m 4 #[.val (.ref a1)] [(.ref w2)])) rfl (hb hby d45_4)
  obtain ⟨fs, hr, hrun, hended, hW, hsame⟩ := X4.leave (v := some (.int (2 : Int32))) (fun h => by rw [Bd.returns] at h; cases h)
  refine ⟨_, _, pre0 _ ?_, hrun, hended, _, _, rfl, ?_, ⟨_, rfl⟩, hW, hsame.mono (by decide) (by decide)⟩
  · show Steps _ _ _ (s₁.setTop (mkF m 0 #[.val (.ref a1)] [])) _
    refine XS.aloadN X0.here hx rfl (hb hby d45_0) rfl rfl ?_
    show Steps _ _ _ (s₁.setTop (mkF m 1 #[.val (.ref a1)] [(.ref a1)])) _
    refine st3 _ ?_
    show Steps _ _ _ (T3.setTop (mkF m 4 #[.val (.ref a1)] [(.ref w2)])) _
    refine st4 _ ?_
    show Steps _ _ _ (T4.setTop (mkF m 7 #[.val (.ref a1)] [(.ref wO), (.ref w2)])) _
    refine Jvm.RoadKit.acmp (g := (mkF m 7 #[.val (.ref a1)] [(.ref wO), (.ref w2)])) X4 hx rfl rfl rfl (pc0 := 7) (pc' := 10) (same := false) rfl (hb hby d45_7) rfl (decide_eq_false fun q => ha7 (Value.ref.inj q)) (by decide) (by decide) ?_
    show Steps _ _ _ (T4.setTop (mkF m 10 #[.val (.ref a1)] [])) _
    refine XS.iconst X4.here hx rfl (hb hby d45_10) ?_
    refine XS.goto X4.here hx rfl (pc0 := 11) (pc' := 15) rfl (hb hby d45_11) (by decide) (by decide) ?_
    show Steps _ _ _ (T4.setTop (mkF m 15 #[.val (.ref a1)] [(.int (2 : Int32))])) _
    exact retI X4 hx Bd.returns (hb hby d45_15) hr
  · show Q_l12b Z a1 wO w2 h0 n0 _ T4.heap _
    rw [e4]
    exact ⟨rfl, N0, rfl⟩
theorem d36_0 : decode jdk_47_method_1_code 0 = .ok (.aload_n 0, 1) := by decide +kernel
theorem d36_1 : decode jdk_47_method_1_code 1 = .ok (.invokespecial 1, 3) := by decide +kernel
theorem d36_4 : decode jdk_47_method_1_code 4 = .ok (.return_, 1) := by decide +kernel
theorem pn_36 : plainName "java/util/ImmutableCollections$AbstractImmutableCollection" = true := by first | (simp [plainName, overriddenIn]; done) | decide +kernel
theorem pd_36_4 : parseMethodDescriptor "()V" = some ⟨[], none⟩ := by decide +kernel
theorem ef_36 (m : MethodId) (x0 : Addr) : entryFrame m #[(.ref x0)] 1 = mkF m 0 #[.val (.ref x0)] [] := by first | (simp [entryFrame, mkF, argsToLocals, Value.category]; done) | rfl
def Q_aic (Z : State) (a1 : Addr) (h0 : Heap) (n0 : Nat) (v : Option Value) (h : Heap) (L : List Loc) : Prop := v = none ∧ Fr n0 L ∧ h = h0
theorem rm_aic (l : Launch) (Z : State) (a0 : Array Value) (hw : ∀ d ∈ tables_1, d.before a0 Z = true) (ws : List Jvm.Cond) (a1 : Addr) (h0 : Heap) (n0 : Nat) (Z0 : n0 ≤ h0.size) :
    MetFree l own_y44 (head1 (Jvm.Cond.code own_y44 jdk_47_method_1_code 1 none :: ws) own_r4) (fun a U => a = #[(.ref a1)] ∧ Z.Warmed39 U.vm ∧ U.heap = h0) (fun _ _ _ _ _ => True) (fun _ U o U' => ∃ v L, o = .returned v ∧ Q_aic Z a1 h0 n0 v U'.heap L ∧ FrameEnd U o U' L own_r4.cells own_r4.slots) := by
  refine MetFree.of_bodySF (plainFor_of_name pn_36) hisR ?_
  intro p e s m args below meth c s₁ Bd hml0 hP hK
  obtain ⟨rfl, hZ, hh⟩ := hP
  have hx := Bd.exec
  have hby := Bd.bytes
  have hml : c.maxLocals = 1 := hml0
  have hown : s.vm.findClass "java/util/ImmutableCollections$AbstractImmutableCollection" = some m.cls := findClass_of_methodNamed Bd.named
  have hnm := (name_of_methodNamed Bd.named Bd.method).1
  have X0 : Stand p l e own_r4 s m #[(.ref a1)] below meth c s₁ [] 0 0 := Stand.of_body Bd
  have e0 : s₁.heap = h0 := by rw [← hh, Bd.state]; rfl
  have N0 := Fr.nil n0
  have pre0 : ∀ t, Steps p.tables e below (s₁.setTop (mkF m 0 #[.val (.ref a1)] [])) t → Steps p.tables e below (s₁.setTop (entryFrame m #[(.ref a1)] 1)) t := fun t k => castTop (ef_36 m a1) k
  obtain ⟨_, _, ⟨T2, L2, k2, n2⟩, -, X2, ⟨Lc2, hQ2, l2, y2, z2⟩, st2⟩ := X0.specialBack hx (y := own_y29) rfl hown (mvT hZ (own_w hw 242 rfl)) (mvT hZ (own_w hw 39 rfl)) (mvT hZ (own_w hw 43 rfl)) (by decide) (backOf (W := 0) (rm_ac l Z a0 hw [] a1  h0 n0 Z0) hZ (own_w hw 43 rfl) (own_w hw 42 rfl) (by decide) (by decide)) (g := (mkF m 1 #[.val (.ref a1)] [(.ref a1)])) rfl (by rw [hml]; rfl) (Steps.refl _) (a := a1) (argsL := []) (rest := []) (lenOf pd_36_4 rfl) rfl (Nat.le_of_eq rfl) (hb hby d36_1) (fun _ _ => ⟨rfl, e0, (by decide : 0 + 0 ≤ _), (by decide : 0 + 0 ≤ _)⟩)
  dsimp only [Pt.U, Pt.locs, Pt.cells, Pt.slots] at X2 l2 y2 z2 st2 hQ2
  subst l2 y2 z2
  obtain ⟨rfl, N2q, K2⟩ := hQ2
  have N2 := Fr.app N0 N2q
  obtain ⟨fs, hr, hrun, hended, hW, hsame⟩ := X2.leave (v := none) (fun _ => rfl)
  refine ⟨_, _, pre0 _ ?_, hrun, hended, _, _, rfl, ?_, ⟨_, rfl⟩, hW, hsame.mono (by decide) (by decide)⟩
  · show Steps _ _ _ (s₁.setTop (mkF m 0 #[.val (.ref a1)] [])) _
    refine XS.aloadN X0.here hx rfl (hb hby d36_0) rfl rfl ?_
    show Steps _ _ _ (s₁.setTop (mkF m 1 #[.val (.ref a1)] [(.ref a1)])) _
    refine st2.trans ?_
    show Steps _ _ _ (T2.setTop (mkF m 4 #[.val (.ref a1)] [])) _
    exact X2.returnOut hx Bd.returns (hb hby d36_4) hr
  · show Q_aic Z a1 h0 n0 _ T2.heap _
    rw [K2]
    exact ⟨rfl, N2, rfl⟩
theorem d35_0 : decode jdk_46_method_1_code 0 = .ok (.aload_n 0, 1) := by decide +kernel
theorem d35_1 : decode jdk_46_method_1_code 1 = .ok (.invokespecial 1, 3) := by decide +kernel
theorem d35_4 : decode jdk_46_method_1_code 4 = .ok (.return_, 1) := by decide +kernel
theorem pn_35 : plainName "java/util/ImmutableCollections$AbstractImmutableList" = true := by first | (simp [plainName, overriddenIn]; done) | decide +kernel
theorem pd_35_4 : parseMethodDescriptor "()V" = some ⟨[], none⟩ := by decide +kernel
theorem ef_35 (m : MethodId) (x0 : Addr) : entryFrame m #[(.ref x0)] 1 = mkF m 0 #[.val (.ref x0)] [] := by first | (simp [entryFrame, mkF, argsToLocals, Value.category]; done) | rfl
def Q_ail (Z : State) (a1 : Addr) (h0 : Heap) (n0 : Nat) (v : Option Value) (h : Heap) (L : List Loc) : Prop := v = none ∧ Fr n0 L ∧ h = h0
theorem rm_ail (l : Launch) (Z : State) (a0 : Array Value) (hw : ∀ d ∈ tables_1, d.before a0 Z = true) (ws : List Jvm.Cond) (a1 : Addr) (h0 : Heap) (n0 : Nat) (Z0 : n0 ≤ h0.size) :
    MetFree l own_y27 (head1 (Jvm.Cond.code own_y27 jdk_46_method_1_code 1 none :: ws) own_r6) (fun a U => a = #[(.ref a1)] ∧ Z.Warmed39 U.vm ∧ U.heap = h0) (fun _ _ _ _ _ => True) (fun _ U o U' => ∃ v L, o = .returned v ∧ Q_ail Z a1 h0 n0 v U'.heap L ∧ FrameEnd U o U' L own_r6.cells own_r6.slots) := by
  refine MetFree.of_bodySF (plainFor_of_name pn_35) hisR ?_
  intro p e s m args below meth c s₁ Bd hml0 hP hK
  obtain ⟨rfl, hZ, hh⟩ := hP
  have hx := Bd.exec
  have hby := Bd.bytes
  have hml : c.maxLocals = 1 := hml0
  have hown : s.vm.findClass "java/util/ImmutableCollections$AbstractImmutableList" = some m.cls := findClass_of_methodNamed Bd.named
  have hnm := (name_of_methodNamed Bd.named Bd.method).1
  have X0 : Stand p l e own_r6 s m #[(.ref a1)] below meth c s₁ [] 0 0 := Stand.of_body Bd
  have e0 : s₁.heap = h0 := by rw [← hh, Bd.state]; rfl
  have N0 := Fr.nil n0
  have pre0 : ∀ t, Steps p.tables e below (s₁.setTop (mkF m 0 #[.val (.ref a1)] [])) t → Steps p.tables e below (s₁.setTop (entryFrame m #[(.ref a1)] 1)) t := fun t k => castTop (ef_35 m a1) k
  obtain ⟨_, _, ⟨T2, L2, k2, n2⟩, -, X2, ⟨Lc2, hQ2, l2, y2, z2⟩, st2⟩ := X0.specialBack hx (y := own_y44) rfl hown (mvT hZ (own_w hw 236 rfl)) (mvT hZ (own_w hw 237 rfl)) (mvT hZ (own_w hw 241 rfl)) (by decide) (backOf (W := 0) (rm_aic l Z a0 hw [] a1  h0 n0 Z0) hZ (own_w hw 241 rfl) (own_w hw 240 rfl) (by decide) (by decide)) (g := (mkF m 1 #[.val (.ref a1)] [(.ref a1)])) rfl (by rw [hml]; rfl) (Steps.refl _) (a := a1) (argsL := []) (rest := []) (lenOf pd_35_4 rfl) rfl (Nat.le_of_eq rfl) (hb hby d35_1) (fun _ _ => ⟨rfl, e0, (by decide : 0 + 0 ≤ _), (by decide : 0 + 0 ≤ _)⟩)
  dsimp only [Pt.U, Pt.locs, Pt.cells, Pt.slots] at X2 l2 y2 z2 st2 hQ2
  subst l2 y2 z2
  obtain ⟨rfl, N2q, K2⟩ := hQ2
  have N2 := Fr.app N0 N2q
  obtain ⟨fs, hr, hrun, hended, hW, hsame⟩ := X2.leave (v := none) (fun _ => rfl)
  refine ⟨_, _, pre0 _ ?_, hrun, hended, _, _, rfl, ?_, ⟨_, rfl⟩, hW, hsame.mono (by decide) (by decide)⟩
  · show Steps _ _ _ (s₁.setTop (mkF m 0 #[.val (.ref a1)] [])) _
    refine XS.aloadN X0.here hx rfl (hb hby d35_0) rfl rfl ?_
    show Steps _ _ _ (s₁.setTop (mkF m 1 #[.val (.ref a1)] [(.ref a1)])) _
    refine st2.trans ?_
    show Steps _ _ _ (T2.setTop (mkF m 4 #[.val (.ref a1)] [])) _
    exact X2.returnOut hx Bd.returns (hb hby d35_4) hr
  · show Q_ail Z a1 h0 n0 _ T2.heap _
    rw [K2]
    exact ⟨rfl, N2, rfl⟩
theorem d34_0 : decode jdk_44_method_1_code 0 = .ok (.aload_n 0, 1) := by decide +kernel
theorem d34_1 : decode jdk_44_method_1_code 1 = .ok (.invokespecial 1, 3) := by decide +kernel
theorem d34_4 : decode jdk_44_method_1_code 4 = .ok (.aload_n 0, 1) := by decide +kernel
theorem d34_5 : decode jdk_44_method_1_code 5 = .ok (.aload_n 1, 1) := by decide +kernel
theorem d34_6 : decode jdk_44_method_1_code 6 = .ok (.invokestatic 7, 3) := by decide +kernel
theorem d34_9 : decode jdk_44_method_1_code 9 = .ok (.putfield 13, 3) := by decide +kernel
theorem d34_12 : decode jdk_44_method_1_code 12 = .ok (.aload_n 0, 1) := by decide +kernel
theorem d34_13 : decode jdk_44_method_1_code 13 = .ok (.getstatic 19, 3) := by decide +kernel
theorem d34_16 : decode jdk_44_method_1_code 16 = .ok (.putfield 24, 3) := by decide +kernel
theorem d34_19 : decode jdk_44_method_1_code 19 = .ok (.return_, 1) := by decide +kernel
theorem pn_34 : plainName "java/util/ImmutableCollections$List12" = true := by first | (simp [plainName, overriddenIn]; done) | decide +kernel
theorem pd_34_4 : parseMethodDescriptor "()V" = some ⟨[], none⟩ := by decide +kernel
theorem pd_34_27 : parseMethodDescriptor "(Ljava/lang/Object;)Ljava/lang/Object;" = some ⟨[(.object "java/lang/Object")], some (.object "java/lang/Object")⟩ := by decide +kernel
theorem ef_34 (m : MethodId) (x0 : Addr) (x1 : Addr) : entryFrame m #[(.ref x0), (.ref x1)] 2 = mkF m 0 #[.val (.ref x0), .val (.ref x1)] [] := by first | (simp [entryFrame, mkF, argsToLocals, Value.category]; done) | rfl
def Q_l1init (Z : State) (a1 : Addr) (a2 : Addr) (wO : Addr) (u_e0_a1 : Value) (u_e1_a1 : Value) (h0 : Heap) (n0 : Nat) (v : Option Value) (h : Heap) (L : List Loc) : Prop := v = none ∧ Fr n0 L ∧ Keep h0 h [a1] ∧ Exa Z h a1 "java/util/ImmutableCollections$List12" ∧ Fld Z h a1 "java/util/ImmutableCollections$List12" "e1" "Ljava/lang/Object;" (.ref wO)
theorem rm_l1init (l : Launch) (Z : State) (a0 : Array Value) (hw : ∀ d ∈ tables_1, d.before a0 Z = true) (ws : List Jvm.Cond) (a1 : Addr) (a2 : Addr) (wO : Addr) (u_e0_a1 : Value) (u_e1_a1 : Value) (h0 : Heap) (n0 : Nat) (Z0 : n0 ≤ h0.size) (Ol : Old Z n0 h0) (S_EMPTY : Sta Z Z.heap "java/util/ImmutableCollections" "EMPTY" "Ljava/lang/Object;" (.ref wO)) (E_a1 : Exa Z h0 a1 "java/util/ImmutableCollections$List12") (F_e0_a1 : Fld Z h0 a1 "java/util/ImmutableCollections$List12" "e0" "Ljava/lang/Object;" u_e0_a1) (g_a1 : n0 ≤ a1) (F_e1_a1 : Fld Z h0 a1 "java/util/ImmutableCollections$List12" "e1" "Ljava/lang/Object;" u_e1_a1) :
    MetFree l own_y45 (head1 (Jvm.Cond.code own_y45 jdk_44_method_1_code 2 none :: ws) own_r5) (fun a U => a = #[(.ref a1), (.ref a2)] ∧ Z.Warmed39 U.vm ∧ U.heap = h0) (fun _ _ _ _ _ => True) (fun _ U o U' => ∃ v L, o = .returned v ∧ Q_l1init Z a1 a2 wO u_e0_a1 u_e1_a1 h0 n0 v U'.heap L ∧ FrameEnd U o U' L own_r5.cells own_r5.slots) := by
  refine MetFree.of_bodySF (plainFor_of_name pn_34) hisR ?_
  intro p e s m args below meth c s₁ Bd hml0 hP hK
  obtain ⟨rfl, hZ, hh⟩ := hP
  have hx := Bd.exec
  have hby := Bd.bytes
  have hml : c.maxLocals = 2 := hml0
  have hown : s.vm.findClass "java/util/ImmutableCollections$List12" = some m.cls := findClass_of_methodNamed Bd.named
  have hnm := (name_of_methodNamed Bd.named Bd.method).1
  have X0 : Stand p l e own_r5 s m #[(.ref a1), (.ref a2)] below meth c s₁ [] 0 0 := Stand.of_body Bd
  have e0 : s₁.heap = h0 := by rw [← hh, Bd.state]; rfl
  have N0 := Fr.nil n0
  have pre0 : ∀ t, Steps p.tables e below (s₁.setTop (mkF m 0 #[.val (.ref a1), .val (.ref a2)] [])) t → Steps p.tables e below (s₁.setTop (entryFrame m #[(.ref a1), (.ref a2)] 2)) t := fun t k => castTop (ef_34 m a1 a2) k
  obtain ⟨_, _, ⟨T3, L3, k3, n3⟩, -, X3, ⟨Lc3, hQ3, l3, y3, z3⟩, st3⟩ := X0.specialBack hx (y := own_y27) rfl hown (mvT hZ (own_w hw 230 rfl)) (mvT hZ (own_w hw 231 rfl)) (mvT hZ (own_w hw 235 rfl)) (by decide) (backOf (W := 0) (rm_ail l Z a0 hw [] a1  h0 n0 Z0) hZ (own_w hw 235 rfl) (own_w hw 234 rfl) (by decide) (by decide)) (g := (mkF m 1 #[.val (.ref a1), .val (.ref a2)] [(.ref a1)])) rfl (by rw [hml]; rfl) (Steps.refl _) (a := a1) (argsL := []) (rest := []) (lenOf pd_34_4 rfl) rfl (Nat.le_of_eq rfl) (hb hby d34_1) (fun _ _ => ⟨rfl, e0, (by decide : 0 + 0 ≤ _), (by decide : 0 + 0 ≤ _)⟩)
  dsimp only [Pt.U, Pt.locs, Pt.cells, Pt.slots] at X3 l3 y3 z3 st3 hQ3
  subst l3 y3 z3
  obtain ⟨rfl, N3q, K3⟩ := hQ3
  have N3 := Fr.app N0 N3q
  obtain ⟨_, _, ⟨T4, L4, k4, n4⟩, -, X4, ⟨Lc4, hQ4, l4, y4, z4⟩, st4⟩ := Jvm.LawKit.callS X3 hx (y := own_y17) hown (mvT hZ (own_w hw 244 rfl)) (mvT hZ (own_w hw 245 rfl)) (mvT hZ (own_w hw 134 rfl)) (mvT hZ (own_w hw 246 rfl)) (by decide) (backOf (W := 1) (rm_rnn l Z a0 hw [] a2  h0 n0 Z0) hZ (own_w hw 246 rfl) (own_w hw 134 rfl) (by decide) (by decide)) (g := (mkF m 6 #[.val (.ref a1), .val (.ref a2)] [(.ref a2), (.ref a1)])) rfl (by rw [hml]; rfl) (argsL := [(.ref a2)]) (rest := [(.ref a1)]) (lenOf pd_34_27 rfl) rfl (Nat.le_of_eq rfl) (hb hby d34_6) (fun _ _ => ⟨rfl, K3, (by decide : 0 + 0 ≤ _), (by decide : 0 + 0 ≤ _)⟩)
  dsimp only [Pt.U, Pt.locs, Pt.cells, Pt.slots] at X4 l4 y4 z4 st4 hQ4
  subst l4 y4 z4
  obtain ⟨rfl, N4q, K4⟩ := hQ4
  have N4 := Fr.app N3 N4q
  obtain ⟨T5, h5, X5, e5, W5, st5⟩ := putF X4 hx hZ hown (host := "") (Or.inl (own_w hw 247 rfl)) Via.refl K4 F_e0_a1 E_a1 (Or.inr ⟨(own_w hw 248 rfl), rfl, hnm⟩) (own_w hw 224 rfl) (ty := (.object "java/lang/Object")) (by decide) rfl rfl (g := (mkF m 9 #[.val (.ref a1), .val (.ref a2)] [(.ref a2), (.ref a1)])) rfl rfl (hb hby d34_9)
  have Fw5 := F_e0_a1.same W5
  have K5 : Keep h0 h5 [a1] := (Keep.refl h0 [a1]).wr W5 (Or.inl (List.mem_of_getElem? (i := 0) rfl))
  have N5 := Fr.snoc X5 N4 g_a1
  obtain ⟨T6, X6, e6, st6⟩ := getS2 X5 hx hZ hown (Or.inr (own_w hw 249 rfl)) Via.refl e5 (S_EMPTY.ext (Ol.wr W5 g_a1).2) (g := (mkF m 13 #[.val (.ref a1), .val (.ref a2)] [(.ref a1)])) rfl (hb hby d34_13)
  obtain ⟨T7, h7, X7, e7, W7, st7⟩ := putF X6 hx hZ hown (host := "") (Or.inl (own_w hw 250 rfl)) Via.refl e6 (F_e1_a1.other W5 (Or.inr (slot_ne (Or.inr (own_w hw 251 rfl)) (Or.inr (own_w hw 248 rfl)) (by decide) (t := (.object "java/lang/Object")) (t' := (.object "java/lang/Object")) (by decide) (by decide)))) (E_a1.wr W5) (Or.inr ⟨(own_w hw 251 rfl), rfl, hnm⟩) (own_w hw 224 rfl) (ty := (.object "java/lang/Object")) (by decide) rfl rfl (g := (mkF m 16 #[.val (.ref a1), .val (.ref a2)] [(.ref wO), (.ref a1)])) rfl rfl (hb hby d34_16)
  have Fw7 := (F_e1_a1.other W5 (Or.inr (slot_ne (Or.inr (own_w hw 251 rfl)) (Or.inr (own_w hw 248 rfl)) (by decide) (t := (.object "java/lang/Object")) (t' := (.object "java/lang/Object")) (by decide) (by decide)))).same W7
  have K7 : Keep h0 h7 [a1] := K5.wr W7 (Or.inl (List.mem_of_getElem? (i := 0) rfl))
  have N7 := Fr.snoc X7 N5 g_a1
  obtain ⟨fs, hr, hrun, hended, hW, hsame⟩ := X7.leave (v := none) (fun _ => rfl)
  refine ⟨_, _, pre0 _ ?_, hrun, hended, _, _, rfl, ?_, ⟨_, rfl⟩, hW, hsame.mono (by decide) (by decide)⟩
  · show Steps _ _ _ (s₁.setTop (mkF m 0 #[.val (.ref a1), .val (.ref a2)] [])) _
    refine XS.aloadN X0.here hx rfl (hb hby d34_0) rfl rfl ?_
    show Steps _ _ _ (s₁.setTop (mkF m 1 #[.val (.ref a1), .val (.ref a2)] [(.ref a1)])) _
    refine st3.trans ?_
    show Steps _ _ _ (T3.setTop (mkF m 4 #[.val (.ref a1), .val (.ref a2)] [])) _
    refine XS.aloadN X3.here hx rfl (hb hby d34_4) rfl rfl ?_
    refine XS.aloadN X3.here hx rfl (hb hby d34_5) rfl rfl ?_
    show Steps _ _ _ (T3.setTop (mkF m 6 #[.val (.ref a1), .val (.ref a2)] [(.ref a2), (.ref a1)])) _
    refine st4 _ ?_
    show Steps _ _ _ (T4.setTop (mkF m 9 #[.val (.ref a1), .val (.ref a2)] [(.ref a2), (.ref a1)])) _
    refine st5 _ ?_
    show Steps _ _ _ (T5.setTop (mkF m 12 #[.val (.ref a1), .val (.ref a2)] [])) _
    refine XS.aloadN X5.here hx rfl (hb hby d34_12) rfl rfl ?_
    show Steps _ _ _ (T5.setTop (mkF m 13 #[.val (.ref a1), .val (.ref a2)] [(.ref a1)])) _
    refine st6 _ ?_
    show Steps _ _ _ (T6.setTop (mkF m 16 #[.val (.ref a1), .val (.ref a2)] [(.ref wO), (.ref a1)])) _
    refine st7 _ ?_
    show Steps _ _ _ (T7.setTop (mkF m 19 #[.val (.ref a1), .val (.ref a2)] [])) _
    exact X7.returnOut hx Bd.returns (hb hby d34_19) hr
  · show Q_l1init Z a1 a2 wO u_e0_a1 u_e1_a1 h0 n0 _ T7.heap _
    rw [e7]
    exact ⟨rfl, N7, K7, ((E_a1.wr W5).wr W7), Fw7⟩
theorem d44_0 : decode jdk_44_method_2_code 0 = .ok (.aload_n 0, 1) := by decide +kernel
theorem d44_1 : decode jdk_44_method_2_code 1 = .ok (.invokespecial 1, 3) := by decide +kernel
theorem d44_4 : decode jdk_44_method_2_code 4 = .ok (.aload_n 0, 1) := by decide +kernel
theorem d44_5 : decode jdk_44_method_2_code 5 = .ok (.aload_n 1, 1) := by decide +kernel
theorem d44_6 : decode jdk_44_method_2_code 6 = .ok (.invokestatic 7, 3) := by decide +kernel
theorem d44_9 : decode jdk_44_method_2_code 9 = .ok (.putfield 13, 3) := by decide +kernel
theorem d44_12 : decode jdk_44_method_2_code 12 = .ok (.aload_n 0, 1) := by decide +kernel
theorem d44_13 : decode jdk_44_method_2_code 13 = .ok (.aload_n 2, 1) := by decide +kernel
theorem d44_14 : decode jdk_44_method_2_code 14 = .ok (.invokestatic 7, 3) := by decide +kernel
theorem d44_17 : decode jdk_44_method_2_code 17 = .ok (.putfield 24, 3) := by decide +kernel
theorem d44_20 : decode jdk_44_method_2_code 20 = .ok (.return_, 1) := by decide +kernel
theorem pn_44 : plainName "java/util/ImmutableCollections$List12" = true := by first | (simp [plainName, overriddenIn]; done) | decide +kernel
theorem pd_44_4 : parseMethodDescriptor "()V" = some ⟨[], none⟩ := by decide +kernel
theorem pd_44_27 : parseMethodDescriptor "(Ljava/lang/Object;)Ljava/lang/Object;" = some ⟨[(.object "java/lang/Object")], some (.object "java/lang/Object")⟩ := by decide +kernel
theorem ef_44 (m : MethodId) (x0 : Addr) (x1 : Addr) (x2 : Addr) : entryFrame m #[(.ref x0), (.ref x1), (.ref x2)] 3 = mkF m 0 #[.val (.ref x0), .val (.ref x1), .val (.ref x2)] [] := by first | (simp [entryFrame, mkF, argsToLocals, Value.category]; done) | rfl
def Q_l2init (Z : State) (a1 : Addr) (a2 : Addr) (a3 : Addr) (u_e0_a1 : Value) (u_e1_a1 : Value) (h0 : Heap) (n0 : Nat) (v : Option Value) (h : Heap) (L : List Loc) : Prop := v = none ∧ Fr n0 L ∧ Keep h0 h [a1] ∧ Exa Z h a1 "java/util/ImmutableCollections$List12" ∧ Fld Z h a1 "java/util/ImmutableCollections$List12" "e1" "Ljava/lang/Object;" (.ref a3)
theorem rm_l2init (l : Launch) (Z : State) (a0 : Array Value) (hw : ∀ d ∈ tables_1, d.before a0 Z = true) (ws : List Jvm.Cond) (a1 : Addr) (a2 : Addr) (a3 : Addr) (u_e0_a1 : Value) (u_e1_a1 : Value) (h0 : Heap) (n0 : Nat) (Z0 : n0 ≤ h0.size) (E_a1 : Exa Z h0 a1 "java/util/ImmutableCollections$List12") (F_e0_a1 : Fld Z h0 a1 "java/util/ImmutableCollections$List12" "e0" "Ljava/lang/Object;" u_e0_a1) (g_a1 : n0 ≤ a1) (F_e1_a1 : Fld Z h0 a1 "java/util/ImmutableCollections$List12" "e1" "Ljava/lang/Object;" u_e1_a1) :
    MetFree l own_y46 (head1 (Jvm.Cond.code own_y46 jdk_44_method_2_code 3 none :: ws) own_r5) (fun a U => a = #[(.ref a1), (.ref a2), (.ref a3)] ∧ Z.Warmed39 U.vm ∧ U.heap = h0) (fun _ _ _ _ _ => True) (fun _ U o U' => ∃ v L, o = .returned v ∧ Q_l2init Z a1 a2 a3 u_e0_a1 u_e1_a1 h0 n0 v U'.heap L ∧ FrameEnd U o U' L own_r5.cells own_r5.slots) := by
  refine MetFree.of_bodySF (plainFor_of_name pn_44) hisR ?_
  intro p e s m args below meth c s₁ Bd hml0 hP hK
  obtain ⟨rfl, hZ, hh⟩ := hP
  have hx := Bd.exec
  have hby := Bd.bytes
  have hml : c.maxLocals = 3 := hml0
  have hown : s.vm.findClass "java/util/ImmutableCollections$List12" = some m.cls := findClass_of_methodNamed Bd.named
  have hnm := (name_of_methodNamed Bd.named Bd.method).1
  have X0 : Stand p l e own_r5 s m #[(.ref a1), (.ref a2), (.ref a3)] below meth c s₁ [] 0 0 := Stand.of_body Bd
  have e0 : s₁.heap = h0 := by rw [← hh, Bd.state]; rfl
  have N0 := Fr.nil n0
  have pre0 : ∀ t, Steps p.tables e below (s₁.setTop (mkF m 0 #[.val (.ref a1), .val (.ref a2), .val (.ref a3)] [])) t → Steps p.tables e below (s₁.setTop (entryFrame m #[(.ref a1), (.ref a2), (.ref a3)] 3)) t := fun t k => castTop (ef_44 m a1 a2 a3) k
  obtain ⟨_, _, ⟨T4, L4, k4, n4⟩, -, X4, ⟨Lc4, hQ4, l4, y4, z4⟩, st4⟩ := X0.specialBack hx (y := own_y27) rfl hown (mvT hZ (own_w hw 230 rfl)) (mvT hZ (own_w hw 231 rfl)) (mvT hZ (own_w hw 235 rfl)) (by decide) (backOf (W := 0) (rm_ail l Z a0 hw [] a1  h0 n0 Z0) hZ (own_w hw 235 rfl) (own_w hw 234 rfl) (by decide) (by decide)) (g := (mkF m 1 #[.val (.ref a1), .val (.ref a2), .val (.ref a3)] [(.ref a1)])) rfl (by rw [hml]; rfl) (Steps.refl _) (a := a1) (argsL := []) (rest := []) (lenOf pd_44_4 rfl) rfl (Nat.le_of_eq rfl) (hb hby d44_1) (fun _ _ => ⟨rfl, e0, (by decide : 0 + 0 ≤ _), (by decide : 0 + 0 ≤ _)⟩)
  dsimp only [Pt.U, Pt.locs, Pt.cells, Pt.slots] at X4 l4 y4 z4 st4 hQ4
  subst l4 y4 z4
  obtain ⟨rfl, N4q, K4⟩ := hQ4
  have N4 := Fr.app N0 N4q
  obtain ⟨_, _, ⟨T5, L5, k5, n5⟩, -, X5, ⟨Lc5, hQ5, l5, y5, z5⟩, st5⟩ := Jvm.LawKit.callS X4 hx (y := own_y17) hown (mvT hZ (own_w hw 244 rfl)) (mvT hZ (own_w hw 245 rfl)) (mvT hZ (own_w hw 134 rfl)) (mvT hZ (own_w hw 246 rfl)) (by decide) (backOf (W := 1) (rm_rnn l Z a0 hw [] a2  h0 n0 Z0) hZ (own_w hw 246 rfl) (own_w hw 134 rfl) (by decide) (by decide)) (g := (mkF m 6 #[.val (.ref a1), .val (.ref a2), .val (.ref a3)] [(.ref a2), (.ref a1)])) rfl (by rw [hml]; rfl) (argsL := [(.ref a2)]) (rest := [(.ref a1)]) (lenOf pd_44_27 rfl) rfl (Nat.le_of_eq rfl) (hb hby d44_6) (fun _ _ => ⟨rfl, K4, (by decide : 0 + 0 ≤ _), (by decide : 0 + 0 ≤ _)⟩)
  dsimp only [Pt.U, Pt.locs, Pt.cells, Pt.slots] at X5 l5 y5 z5 st5 hQ5
  subst l5 y5 z5
  obtain ⟨rfl, N5q, K5⟩ := hQ5
  have N5 := Fr.app N4 N5q
  obtain ⟨T6, h6, X6, e6, W6, st6⟩ := putF X5 hx hZ hown (host := "") (Or.inl (own_w hw 247 rfl)) Via.refl K5 F_e0_a1 E_a1 (Or.inr ⟨(own_w hw 248 rfl), rfl, hnm⟩) (own_w hw 224 rfl) (ty := (.object "java/lang/Object")) (by decide) rfl rfl (g := (mkF m 9 #[.val (.ref a1), .val (.ref a2), .val (.ref a3)] [(.ref a2), (.ref a1)])) rfl rfl (hb hby d44_9)
  have Fw6 := F_e0_a1.same W6
  have K6 : Keep h0 h6 [a1] := (Keep.refl h0 [a1]).wr W6 (Or.inl (List.mem_of_getElem? (i := 0) rfl))
  have N6 := Fr.snoc X6 N5 g_a1
  obtain ⟨_, _, ⟨T7, L7, k7, n7⟩, -, X7, ⟨Lc7, hQ7, l7, y7, z7⟩, st7⟩ := Jvm.LawKit.callS X6 hx (y := own_y17) hown (mvT hZ (own_w hw 244 rfl)) (mvT hZ (own_w hw 245 rfl)) (mvT hZ (own_w hw 134 rfl)) (mvT hZ (own_w hw 246 rfl)) (by decide) (backOf (W := 1) (rm_rnn l Z a0 hw [] a3  h6 n0 (Nat.le_trans Z0 (Keep.of_wr W6).1)) hZ (own_w hw 246 rfl) (own_w hw 134 rfl) (by decide) (by decide)) (g := (mkF m 14 #[.val (.ref a1), .val (.ref a2), .val (.ref a3)] [(.ref a3), (.ref a1)])) rfl (by rw [hml]; rfl) (argsL := [(.ref a3)]) (rest := [(.ref a1)]) (lenOf pd_44_27 rfl) rfl (Nat.le_of_eq rfl) (hb hby d44_14) (fun _ _ => ⟨rfl, e6, (by decide : 0 + 0 ≤ _), (by decide : 0 + 0 ≤ _)⟩)
  dsimp only [Pt.U, Pt.locs, Pt.cells, Pt.slots] at X7 l7 y7 z7 st7 hQ7
  subst l7 y7 z7
  obtain ⟨rfl, N7q, K7⟩ := hQ7
  have N7 := Fr.app N6 N7q
  obtain ⟨T8, h8, X8, e8, W8, st8⟩ := putF X7 hx hZ hown (host := "") (Or.inl (own_w hw 250 rfl)) Via.refl K7 (F_e1_a1.other W6 (Or.inr (slot_ne (Or.inr (own_w hw 251 rfl)) (Or.inr (own_w hw 248 rfl)) (by decide) (t := (.object "java/lang/Object")) (t' := (.object "java/lang/Object")) (by decide) (by decide)))) (E_a1.wr W6) (Or.inr ⟨(own_w hw 251 rfl), rfl, hnm⟩) (own_w hw 224 rfl) (ty := (.object "java/lang/Object")) (by decide) rfl rfl (g := (mkF m 17 #[.val (.ref a1), .val (.ref a2), .val (.ref a3)] [(.ref a3), (.ref a1)])) rfl rfl (hb hby d44_17)
  have Fw8 := (F_e1_a1.other W6 (Or.inr (slot_ne (Or.inr (own_w hw 251 rfl)) (Or.inr (own_w hw 248 rfl)) (by decide) (t := (.object "java/lang/Object")) (t' := (.object "java/lang/Object")) (by decide) (by decide)))).same W8
  have K8 : Keep h0 h8 [a1] := K6.wr W8 (Or.inl (List.mem_of_getElem? (i := 0) rfl))
  have N8 := Fr.snoc X8 N7 g_a1
  obtain ⟨fs, hr, hrun, hended, hW, hsame⟩ := X8.leave (v := none) (fun _ => rfl)
  refine ⟨_, _, pre0 _ ?_, hrun, hended, _, _, rfl, ?_, ⟨_, rfl⟩, hW, hsame.mono (by decide) (by decide)⟩
  · show Steps _ _ _ (s₁.setTop (mkF m 0 #[.val (.ref a1), .val (.ref a2), .val (.ref a3)] [])) _
    refine XS.aloadN X0.here hx rfl (hb hby d44_0) rfl rfl ?_
    show Steps _ _ _ (s₁.setTop (mkF m 1 #[.val (.ref a1), .val (.ref a2), .val (.ref a3)] [(.ref a1)])) _
    refine st4.trans ?_
    show Steps _ _ _ (T4.setTop (mkF m 4 #[.val (.ref a1), .val (.ref a2), .val (.ref a3)] [])) _
    refine XS.aloadN X4.here hx rfl (hb hby d44_4) rfl rfl ?_
    refine XS.aloadN X4.here hx rfl (hb hby d44_5) rfl rfl ?_
    show Steps _ _ _ (T4.setTop (mkF m 6 #[.val (.ref a1), .val (.ref a2), .val (.ref a3)] [(.ref a2), (.ref a1)])) _
    refine st5 _ ?_
    show Steps _ _ _ (T5.setTop (mkF m 9 #[.val (.ref a1), .val (.ref a2), .val (.ref a3)] [(.ref a2), (.ref a1)])) _
    refine st6 _ ?_
    show Steps _ _ _ (T6.setTop (mkF m 12 #[.val (.ref a1), .val (.ref a2), .val (.ref a3)] [])) _
    refine XS.aloadN X6.here hx rfl (hb hby d44_12) rfl rfl ?_
    refine XS.aloadN X6.here hx rfl (hb hby d44_13) rfl rfl ?_
    show Steps _ _ _ (T6.setTop (mkF m 14 #[.val (.ref a1), .val (.ref a2), .val (.ref a3)] [(.ref a3), (.ref a1)])) _
    refine st7 _ ?_
    show Steps _ _ _ (T7.setTop (mkF m 17 #[.val (.ref a1), .val (.ref a2), .val (.ref a3)] [(.ref a3), (.ref a1)])) _
    refine st8 _ ?_
    show Steps _ _ _ (T8.setTop (mkF m 20 #[.val (.ref a1), .val (.ref a2), .val (.ref a3)] [])) _
    exact X8.returnOut hx Bd.returns (hb hby d44_20) hr
  · show Q_l2init Z a1 a2 a3 u_e0_a1 u_e1_a1 h0 n0 _ T8.heap _
    rw [e8]
    exact ⟨rfl, N8, K8, ((E_a1.wr W6).wr W8), Fw8⟩
theorem d43_0 : decode jdk_45_method_1_code 0 = .ok (.aload_n 0, 1) := by decide +kernel
theorem d43_1 : decode jdk_45_method_1_code 1 = .ok (.invokespecial 1, 3) := by decide +kernel
theorem d43_4 : decode jdk_45_method_1_code 4 = .ok (.aload_n 0, 1) := by decide +kernel
theorem d43_5 : decode jdk_45_method_1_code 5 = .ok (.aload_n 1, 1) := by decide +kernel
theorem d43_6 : decode jdk_45_method_1_code 6 = .ok (.putfield 7, 3) := by decide +kernel
theorem d43_9 : decode jdk_45_method_1_code 9 = .ok (.aload_n 0, 1) := by decide +kernel
theorem d43_10 : decode jdk_45_method_1_code 10 = .ok (.iload_n 2, 1) := by decide +kernel
theorem d43_11 : decode jdk_45_method_1_code 11 = .ok (.putfield 13, 3) := by decide +kernel
theorem d43_14 : decode jdk_45_method_1_code 14 = .ok (.return_, 1) := by decide +kernel
theorem pn_43 : plainName "java/util/ImmutableCollections$ListN" = true := by first | (simp [plainName, overriddenIn]; done) | decide +kernel
theorem pd_43_4 : parseMethodDescriptor "()V" = some ⟨[], none⟩ := by decide +kernel
theorem ef_43 (m : MethodId) (x0 : Addr) (x1 : Addr) (x2 : Int32) : entryFrame m #[(.ref x0), (.ref x1), (.int x2)] 3 = mkF m 0 #[.val (.ref x0), .val (.ref x1), .val (.int x2)] [] := by first | (simp [entryFrame, mkF, argsToLocals, Value.category]; done) | rfl
def Q_lninit (Z : State) (a1 : Addr) (a2 : Addr) (p3 : Int32) (u_elements_a1 : Value) (u_allowNulls_a1 : Value) (h0 : Heap) (n0 : Nat) (v : Option Value) (h : Heap) (L : List Loc) : Prop := v = none ∧ Fr n0 L ∧ Keep h0 h [a1] ∧ Exa Z h a1 "java/util/ImmutableCollections$ListN" ∧ Fld Z h a1 "java/util/ImmutableCollections$ListN" "elements" "[Ljava/lang/Object;" (.ref a2)
theorem rm_lninit (l : Launch) (Z : State) (a0 : Array Value) (hw : ∀ d ∈ tables_1, d.before a0 Z = true) (ws : List Jvm.Cond) (a1 : Addr) (a2 : Addr) (p3 : Int32) (u_elements_a1 : Value) (u_allowNulls_a1 : Value) (h0 : Heap) (n0 : Nat) (Z0 : n0 ≤ h0.size) (E_a1 : Exa Z h0 a1 "java/util/ImmutableCollections$ListN") (F_elements_a1 : Fld Z h0 a1 "java/util/ImmutableCollections$ListN" "elements" "[Ljava/lang/Object;" u_elements_a1) (g_a1 : n0 ≤ a1) (F_allowNulls_a1 : Fld Z h0 a1 "java/util/ImmutableCollections$ListN" "allowNulls" "Z" u_allowNulls_a1) :
    MetFree l own_y47 (head1 (Jvm.Cond.code own_y47 jdk_45_method_1_code 3 none :: ws) own_r5) (fun a U => a = #[(.ref a1), (.ref a2), (.int p3)] ∧ Z.Warmed39 U.vm ∧ U.heap = h0) (fun _ _ _ _ _ => True) (fun _ U o U' => ∃ v L, o = .returned v ∧ Q_lninit Z a1 a2 p3 u_elements_a1 u_allowNulls_a1 h0 n0 v U'.heap L ∧ FrameEnd U o U' L own_r5.cells own_r5.slots) := by
  refine MetFree.of_bodySF (plainFor_of_name pn_43) hisR ?_
  intro p e s m args below meth c s₁ Bd hml0 hP hK
  obtain ⟨rfl, hZ, hh⟩ := hP
  have hx := Bd.exec
  have hby := Bd.bytes
  have hml : c.maxLocals = 3 := hml0
  have hown : s.vm.findClass "java/util/ImmutableCollections$ListN" = some m.cls := findClass_of_methodNamed Bd.named
  have hnm := (name_of_methodNamed Bd.named Bd.method).1
  have X0 : Stand p l e own_r5 s m #[(.ref a1), (.ref a2), (.int p3)] below meth c s₁ [] 0 0 := Stand.of_body Bd
  have e0 : s₁.heap = h0 := by rw [← hh, Bd.state]; rfl
  have N0 := Fr.nil n0
  have pre0 : ∀ t, Steps p.tables e below (s₁.setTop (mkF m 0 #[.val (.ref a1), .val (.ref a2), .val (.int p3)] [])) t → Steps p.tables e below (s₁.setTop (entryFrame m #[(.ref a1), (.ref a2), (.int p3)] 3)) t := fun t k => castTop (ef_43 m a1 a2 p3) k
  obtain ⟨_, _, ⟨T4, L4, k4, n4⟩, -, X4, ⟨Lc4, hQ4, l4, y4, z4⟩, st4⟩ := X0.specialBack hx (y := own_y27) rfl hown (mvT hZ (own_w hw 326 rfl)) (mvT hZ (own_w hw 231 rfl)) (mvT hZ (own_w hw 235 rfl)) (by decide) (backOf (W := 0) (rm_ail l Z a0 hw [] a1  h0 n0 Z0) hZ (own_w hw 235 rfl) (own_w hw 234 rfl) (by decide) (by decide)) (g := (mkF m 1 #[.val (.ref a1), .val (.ref a2), .val (.int p3)] [(.ref a1)])) rfl (by rw [hml]; rfl) (Steps.refl _) (a := a1) (argsL := []) (rest := []) (lenOf pd_43_4 rfl) rfl (Nat.le_of_eq rfl) (hb hby d43_1) (fun _ _ => ⟨rfl, e0, (by decide : 0 + 0 ≤ _), (by decide : 0 + 0 ≤ _)⟩)
  dsimp only [Pt.U, Pt.locs, Pt.cells, Pt.slots] at X4 l4 y4 z4 st4 hQ4
  subst l4 y4 z4
  obtain ⟨rfl, N4q, K4⟩ := hQ4
  have N4 := Fr.app N0 N4q
  obtain ⟨T5, h5, X5, e5, W5, st5⟩ := putF X4 hx hZ hown (host := "") (Or.inl (own_w hw 290 rfl)) Via.refl K4 F_elements_a1 E_a1 (Or.inr ⟨(own_w hw 291 rfl), rfl, hnm⟩) (own_w hw 321 rfl) (ty := (.array (.object "java/lang/Object"))) (by decide) rfl rfl (g := (mkF m 6 #[.val (.ref a1), .val (.ref a2), .val (.int p3)] [(.ref a2), (.ref a1)])) rfl rfl (hb hby d43_6)
  have Fw5 := F_elements_a1.same W5
  have K5 : Keep h0 h5 [a1] := (Keep.refl h0 [a1]).wr W5 (Or.inl (List.mem_of_getElem? (i := 0) rfl))
  have N5 := Fr.snoc X5 N4 g_a1
  obtain ⟨T6, h6, X6, e6, W6, st6⟩ := putFN X5 hx hZ hown (own_w hw 330 rfl) Via.refl e5 (F_allowNulls_a1.other W5 (Or.inr (slot_ne (Or.inr (own_w hw 331 rfl)) (Or.inr (own_w hw 291 rfl)) (by decide) (t := .boolean) (t' := (.array (.object "java/lang/Object"))) (by decide) (by decide)))) (E_a1.wr W5) (Or.inr ⟨(own_w hw 331 rfl), rfl, hnm⟩) (own_w hw 321 rfl) (ty := .boolean) (v' := (.int (p3 &&& 1))) (by decide) rfl (fits_nar_bool _) (g := (mkF m 11 #[.val (.ref a1), .val (.ref a2), .val (.int p3)] [(.int p3), (.ref a1)])) rfl rfl (hb hby d43_11)
  have Fw6 := (F_allowNulls_a1.other W5 (Or.inr (slot_ne (Or.inr (own_w hw 331 rfl)) (Or.inr (own_w hw 291 rfl)) (by decide) (t := .boolean) (t' := (.array (.object "java/lang/Object"))) (by decide) (by decide)))).same W6
  have K6 : Keep h0 h6 [a1] := K5.wr W6 (Or.inl (List.mem_of_getElem? (i := 0) rfl))
  have N6 := Fr.snoc X6 N5 g_a1
  obtain ⟨fs, hr, hrun, hended, hW, hsame⟩ := X6.leave (v := none) (fun _ => rfl)
  refine ⟨_, _, pre0 _ ?_, hrun, hended, _, _, rfl, ?_, ⟨_, rfl⟩, hW, hsame.mono (by decide) (by decide)⟩
  · show Steps _ _ _ (s₁.setTop (mkF m 0 #[.val (.ref a1), .val (.ref a2), .val (.int p3)] [])) _
    refine XS.aloadN X0.here hx rfl (hb hby d43_0) rfl rfl ?_
    show Steps _ _ _ (s₁.setTop (mkF m 1 #[.val (.ref a1), .val (.ref a2), .val (.int p3)] [(.ref a1)])) _
    refine st4.trans ?_
    show Steps _ _ _ (T4.setTop (mkF m 4 #[.val (.ref a1), .val (.ref a2), .val (.int p3)] [])) _
    refine XS.aloadN X4.here hx rfl (hb hby d43_4) rfl rfl ?_
    refine XS.aloadN X4.here hx rfl (hb hby d43_5) rfl rfl ?_
    show Steps _ _ _ (T4.setTop (mkF m 6 #[.val (.ref a1), .val (.ref a2), .val (.int p3)] [(.ref a2), (.ref a1)])) _
    refine st5 _ ?_
    show Steps _ _ _ (T5.setTop (mkF m 9 #[.val (.ref a1), .val (.ref a2), .val (.int p3)] [])) _
    refine XS.aloadN X5.here hx rfl (hb hby d43_9) rfl rfl ?_
    refine XS.iloadN X5.here hx rfl (hb hby d43_10) rfl ?_
    show Steps _ _ _ (T5.setTop (mkF m 11 #[.val (.ref a1), .val (.ref a2), .val (.int p3)] [(.int p3), (.ref a1)])) _
    refine st6 _ ?_
    show Steps _ _ _ (T6.setTop (mkF m 14 #[.val (.ref a1), .val (.ref a2), .val (.int p3)] [])) _
    exact X6.returnOut hx Bd.returns (hb hby d43_14) hr
  · show Q_lninit Z a1 a2 p3 u_elements_a1 u_allowNulls_a1 h0 n0 _ T6.heap _
    rw [e6]
    exact ⟨rfl, N6, K6, ((E_a1.wr W5).wr W6), (Fw5.other W6 (Or.inr (slot_ne (Or.inr (own_w hw 291 rfl)) (Or.inr (own_w hw 331 rfl)) (by decide) (t := (.array (.object "java/lang/Object"))) (t' := .boolean) (by decide) (by decide))))⟩
theorem d32_0 : decode jdk_29_method_69_code 0 = .ok (.iload_n 0, 1) := by decide +kernel
theorem d32_1 : decode jdk_29_method_69_code 1 = .ok (.iload_n 1, 1) := by decide +kernel
theorem d32_2 : decode jdk_29_method_69_code 2 = .ok (.if_icmp .gt 7, 3) := by decide +kernel
theorem d32_9 : decode jdk_29_method_69_code 9 = .ok (.iload_n 1, 1) := by decide +kernel
theorem d32_10 : decode jdk_29_method_69_code 10 = .ok (.ireturn, 1) := by decide +kernel
theorem ef_32 (m : MethodId) (x0 : Int32) (x1 : Int32) : entryFrame m #[(.int x0), (.int x1)] 2 = mkF m 0 #[.val (.int x0), .val (.int x1)] [] := by first | (simp [entryFrame, mkF, argsToLocals, Value.category]; done) | rfl
def Q_min (Z : State) (p1 : Int32) (p2 : Int32) (h0 : Heap) (n0 : Nat) (v : Option Value) (h : Heap) (L : List Loc) : Prop := v = some (.int p2) ∧ Fr n0 L ∧ h = h0
theorem rm_min (l : Launch) (Z : State) (a0 : Array Value) (hw : ∀ d ∈ tables_1, d.before a0 Z = true) (ws : List Jvm.Cond) (p1 : Int32) (p2 : Int32) (h0 : Heap) (n0 : Nat) (Z0 : n0 ≤ h0.size) (hc2 : p2 < p1) :
    MetFree l own_y28 (head1 (Jvm.Cond.code own_y28 jdk_29_method_69_code 2 (some .int) :: ws) own_r0) (fun a U => a = #[(.int p1), (.int p2)] ∧ Z.Warmed39 U.vm ∧ U.heap = h0) (fun _ _ _ _ _ => True) (fun _ U o U' => ∃ v L, o = .returned v ∧ Q_min Z p1 p2 h0 n0 v U'.heap L ∧ FrameEnd U o U' L own_r0.cells own_r0.slots) := by
  refine MetFree.of_bodySF (Jvm.Free.JP.mathPlain rfl (by decide +kernel)) hisR ?_
  intro p e s m args below meth c s₁ Bd hml0 hP hK
  obtain ⟨rfl, hZ, hh⟩ := hP
  have hx := Bd.exec
  have hby := Bd.bytes
  have hml : c.maxLocals = 2 := hml0
  have hown : s.vm.findClass "java/lang/Math" = some m.cls := findClass_of_methodNamed Bd.named
  have hnm := (name_of_methodNamed Bd.named Bd.method).1
  have X0 : Stand p l e own_r0 s m #[(.int p1), (.int p2)] below meth c s₁ [] 0 0 := Stand.of_body Bd
  have e0 : s₁.heap = h0 := by rw [← hh, Bd.state]; rfl
  have N0 := Fr.nil n0
  have pre0 : ∀ t, Steps p.tables e below (s₁.setTop (mkF m 0 #[.val (.int p1), .val (.int p2)] [])) t → Steps p.tables e below (s₁.setTop (entryFrame m #[(.int p1), (.int p2)] 2)) t := fun t k => castTop (ef_32 m p1 p2) k
  obtain ⟨fs, hr, hrun, hended, hW, hsame⟩ := X0.leave (v := some (.int p2)) (fun h => by rw [Bd.returns] at h; cases h)
  refine ⟨_, _, pre0 _ ?_, hrun, hended, _, _, rfl, ?_, ⟨_, rfl⟩, hW, hsame.mono (by decide) (by decide)⟩
  · show Steps _ _ _ (s₁.setTop (mkF m 0 #[.val (.int p1), .val (.int p2)] [])) _
    refine XS.iloadN X0.here hx rfl (hb hby d32_0) rfl ?_
    refine XS.iloadN X0.here hx rfl (hb hby d32_1) rfl ?_
    refine XS.icmpYes X0.here hx rfl (pc0 := 2) (pc' := 9) rfl (hb hby d32_2) rfl (tlt hc2).2.2.1 (by decide) (by decide) ?_
    refine XS.iloadN X0.here hx rfl (hb hby d32_9) rfl ?_
    show Steps _ _ _ (s₁.setTop (mkF m 10 #[.val (.int p1), .val (.int p2)] [(.int p2)])) _
    exact retI X0 hx Bd.returns (hb hby d32_10) hr
  · show Q_min Z p1 p2 h0 n0 _ s₁.heap _
    rw [e0]
    exact ⟨rfl, N0, rfl⟩
def own_mir (Z : State) (C : String) (m : Addr) : Prop := ∃ (c : ClassId) (k : Class), Z.vm.findClass C = some c ∧ Z.vm.classes[c]? = some k ∧ k.mirror = some m
section OwnSteps
variable {p : Program} {l : Launch} {e : Env} {R : Room} {s : State} {m : MethodId} {args : Array Value} {below : List Frame} {meth : Method} {c : Code} {T : State} {locs : List Loc} {cells slots : Nat} {Z : State} {h : Heap}
theorem own_ldcM (X : Stand p l e R s m args below meth c T locs cells slots) (hx : p.tables.exec = Jvm.exec) (hZ : Z.Warmed39 s.vm) {a0 : Array Value} {own C : String} {index : Nat} (hown : s.vm.findClass own = some m.cls) (w : (Cond.classLink own index C).before a0 Z = true) (eT : T.heap = h) {mr : Addr} (M : own_mir Z C mr) {g : JFrame} (hg : g.method = m) (hd : decode c.code g.pc = .ok (.ldc index, 2)) :
    ∃ T', Stand p l e R s m args below meth c T' locs cells slots ∧ T'.heap = h ∧ ∀ target, Steps p.tables e below (T'.setTop { g with pc := g.pc + 2, stack := .ref mr :: g.stack }) target → Steps p.tables e below (T.setTop g) target := by
  obtain ⟨cc, kc, m1, m2, m3⟩ := M
  obtain ⟨k', q, ek⟩ := hZ.alike.2.2 _ _ m2
  have f1 : s.vm.findClass C = some cc := by rw [hZ.alike.findClass]; exact m1
  have f3 : k'.mirror = some mr := by rw [ek]; exact m3
  obtain ⟨vm', X', st⟩ := X.ldcMirror hx hown (mvT hZ w) (a := mr) (by simp [Term.eval, f1, q, f3]) hg hd
  exact ⟨_, X', eT, st⟩
theorem own_gcls (X : Stand p l e R s m args below meth c T locs cells slots) (hx : p.tables.exec = Jvm.exec) (hZ : Z.Warmed39 s.vm) {a0 : Array Value} {own C : String} {index : Nat} (hown : s.vm.findClass own = some m.cls)
    (w1 : (Cond.methodLink own index own_y25).before a0 Z = true) (w2 : (Cond.declares own_y25).before a0 Z = true) (w3 : (Cond.noSuperclass "java/lang/Object").before a0 Z = true) (w4 : (Cond.selects C own_y25 own_y25).before a0 Z = true) (w5 : (Cond.instanceMethod own_y25).before a0 Z = true) (w6 : (Cond.native own_y25).before a0 Z = true) (eT : T.heap = h) {a : Addr} (E : Exa Z h a C) {mr : Addr} (M : own_mir Z C mr)
    {g : JFrame} (hg : g.method = m) (hsize : g.locals.size = c.maxLocals) {rest : List Value} (hs : g.stack = .ref a :: rest) (hd : decode c.code g.pc = .ok (.invokevirtual index, 3)) (hf : 1 ≤ R.frames) {W : Nat} (hW : 2 * g.monitorRoom + (rest.map fun v => v.category).sum ≤ W) (hl : W + (nativeFrameWords "java/lang/Object" "getClass" 1 + 11) ≤ R.locals) :
    ∃ T', Stand p l e R s m args below meth c T' locs cells slots ∧ T'.heap = h ∧ ∀ target, Steps p.tables e below (T'.setTop { g with pc := g.pc + 3, stack := .ref mr :: rest }) target → Steps p.tables e below (T.setTop g) target := by
  obtain ⟨cc, kc, m1, m2, m3⟩ := M
  obtain ⟨k', q, ek⟩ := hZ.alike.2.2 _ _ m2
  have f1 : s.vm.findClass C = some cc := by rw [hZ.alike.findClass]; exact m1
  have f3 : k'.mirror = some mr := by rw [ek]; exact m3
  obtain ⟨cB, kB, i1, i2, i3⟩ := isOf hZ eT E
  cases f1.symm.trans i1
  obtain ⟨vm', X', st⟩ := X.getClassOf hx hown (mvT hZ w1) (mvT hZ w2) (nf_top (args := #[]) (mvT hZ w3)) (mvT hZ w4) (mvT hZ w5) (mvT hZ w6) f1 i3 q f3 hg hsize hs hd hf (by omega)
  exact ⟨_, X', eT, st⟩
end OwnSteps
theorem own_sto {Z : State} {h : Heap} {b y : Addr} {k : ClassId} {ty : FieldType} {z : Int32} {vs : List Value} {d : Value} {C : String} (V : Arv Z h b k ty z vs d) (O : Ovr Z k C) (I : Ins Z h y C true) : Sto Z h b (.ref y) := by
  obtain ⟨c, A, q, -⟩ := V; exact Sto.ofV A q O I
theorem own_noinst {Z : State} {a0 : Array Value} {K : String} {n3 nK : Nat} (wA : (Cond.instantiable "java/util/ArrayList" n3).before a0 Z = true) (w1 : (Cond.superclass "java/util/ArrayList" "java/util/AbstractList").before a0 Z = true) (w2 : (Cond.superclass "java/util/AbstractList" "java/util/AbstractCollection").before a0 Z = true) (w3 : (Cond.superclass "java/util/AbstractCollection" "java/lang/Object").before a0 Z = true) (w4 : (Cond.noSuperclass "java/lang/Object").before a0 Z = true) (wK : (Cond.instantiable K nK).before a0 Z = true)
    (nA : "java/util/ArrayList" ≠ K) (nB : "java/util/AbstractList" ≠ K) (nC : "java/util/AbstractCollection" ≠ K) (nO : "java/lang/Object" ≠ K) : ∃ c t, Z.vm.findClass "java/util/ArrayList" = some c ∧ Z.vm.findClass K = some t ∧ Z.vm.assignable c t = false := by
  obtain ⟨cA, kA, fA, hkA, hoA, -⟩ := Cond.instantiable_spec wA
  obtain ⟨cT, kT, fT, hkT, hoT, hiT, -⟩ := Cond.instantiable_spec wK
  obtain ⟨cB, kA', kB, fB, hkA', hkB, hsA, -⟩ := Cond.superclass_spec fA w1
  cases hkA.symm.trans hkA'
  obtain ⟨cC, kB', kC, fC, hkB', hkC, hsB, -⟩ := Cond.superclass_spec fB w2
  cases hkB.symm.trans hkB'
  obtain ⟨cO, kC', kO, fO, hkC', hkO, hsC, -⟩ := Cond.superclass_spec fC w3
  cases hkC.symm.trans hkC'
  obtain ⟨cO', kO', fO', hkO', hsO, -⟩ := Cond.noSuperclass_spec w4
  cases fO.symm.trans fO'
  cases hkO.symm.trans hkO'
  have dA := ids_ne fA fT nA
  have dB := ids_ne fB fT nB
  have dC := ids_ne fC fT nC
  have dO := ids_ne fO fT nO
  have iT : kT.isInterface = false := by
    cases q : kT.isInterface
    · rfl
    · rw [q] at hiT; simp at hiT
  have sO : ∀ f, Z.vm.isSubclassAux f cO cT = false := fun f => by cases f <;> simp [Vm.isSubclassAux, dO, hkO, hsO]
  have sC : ∀ f, Z.vm.isSubclassAux f cC cT = false := fun f => by cases f <;> simp [Vm.isSubclassAux, dC, hkC, hsC, sO]
  have sB : ∀ f, Z.vm.isSubclassAux f cB cT = false := fun f => by cases f <;> simp [Vm.isSubclassAux, dB, hkB, hsB, sC]
  have sA : ∀ f, Z.vm.isSubclassAux f cA cT = false := fun f => by cases f <;> simp [Vm.isSubclassAux, dA, hkA, hsA, sB]
  refine ⟨cA, cT, fA, fT, ?_⟩
  show Z.vm.assignableAux (255 + 1) cA cT = false
  simp [Vm.assignableAux, dA, hkA, hkT, hoA, hoT, iT, Vm.isSubclass, sA]
theorem d31_0 : decode jdk_65_method_120_code 0 = .ok (.aload_n 2, 1) := by decide +kernel
theorem d31_1 : decode jdk_65_method_120_code 1 = .ok (.ldc 110, 2) := by decide +kernel
theorem d31_3 : decode jdk_65_method_120_code 3 = .ok (.if_acmp .ne 10, 3) := by decide +kernel
theorem d31_6 : decode jdk_65_method_120_code 6 = .ok (.iload_n 1, 1) := by decide +kernel
theorem d31_7 : decode jdk_65_method_120_code 7 = .ok (.anewarray 2, 3) := by decide +kernel
theorem d31_10 : decode jdk_65_method_120_code 10 = .ok (.goto 14, 3) := by decide +kernel
theorem d31_24 : decode jdk_65_method_120_code 24 = .ok (.astore_n 3, 1) := by decide +kernel
theorem d31_25 : decode jdk_65_method_120_code 25 = .ok (.aload_n 0, 1) := by decide +kernel
theorem d31_26 : decode jdk_65_method_120_code 26 = .ok (.iconst 0, 1) := by decide +kernel
theorem d31_27 : decode jdk_65_method_120_code 27 = .ok (.aload_n 3, 1) := by decide +kernel
theorem d31_28 : decode jdk_65_method_120_code 28 = .ok (.iconst 0, 1) := by decide +kernel
theorem d31_29 : decode jdk_65_method_120_code 29 = .ok (.aload_n 0, 1) := by decide +kernel
theorem d31_30 : decode jdk_65_method_120_code 30 = .ok (.arraylength, 1) := by decide +kernel
theorem d31_31 : decode jdk_65_method_120_code 31 = .ok (.iload_n 1, 1) := by decide +kernel
theorem d31_32 : decode jdk_65_method_120_code 32 = .ok (.invokestatic 304, 3) := by decide +kernel
theorem d31_35 : decode jdk_65_method_120_code 35 = .ok (.invokestatic 150, 3) := by decide +kernel
theorem d31_38 : decode jdk_65_method_120_code 38 = .ok (.aload_n 3, 1) := by decide +kernel
theorem d31_39 : decode jdk_65_method_120_code 39 = .ok (.areturn, 1) := by decide +kernel
theorem pn_31 : plainName "java/util/Arrays" = true := by first | (simp [plainName, overriddenIn]; done) | decide +kernel
theorem pd_31_11 : parseMethodDescriptor "(II)I" = some ⟨[.int, .int], some .int⟩ := by decide +kernel
theorem ef_31_1 (m : MethodId) (x0 : Addr) (x2 : Addr) : entryFrame m #[(.ref x0), (.int (1 : Int32)), (.ref x2)] 4 = mkF m 0 #[.val (.ref x0), .val (.int (1 : Int32)), .val (.ref x2), .unset] [] := by first | (simp [entryFrame, mkF, argsToLocals, Value.category]; done) | rfl
def Q_cpm1 (Z : State) (a1 : Addr) (a3 : Addr) (kA : ClassId) (vs : List Value) (t0 : Addr) (h0 : Heap) (n0 : Nat) (v : Option Value) (h : Heap) (L : List Loc) : Prop := ∃ b k2, v = some (.ref b) ∧ Fr n0 L ∧ Ext h0 h ∧ Arv Z h b k2 (.object "java/lang/Object") (1 : Int32) [.ref t0] .null ∧ Ovr Z k2 "java/lang/Object" ∧ n0 ≤ b ∧ h0.size ≤ b
theorem rm_cpm1 (l : Launch) (Z : State) (a0 : Array Value) (hw : ∀ d ∈ tables_1, d.before a0 Z = true) (ws : List Jvm.Cond) (a1 : Addr) (a3 : Addr) (kA : ClassId) (vs : List Value) (t0 : Addr) (h0 : Heap) (n0 : Nat) (Z0 : n0 ≤ h0.size) (V_a1 : Arv Z h0 a1 kA (.object "java/lang/Object") (10 : Int32) vs .null) (Mr : own_mir Z "[Ljava/lang/Object;" a3) (hv0 : vs.getD 0 .null = .ref t0) (I_t0 : Ins Z h0 t0 "java/lang/Object" true) :
    MetFree l own_y12 (head1 (Jvm.Cond.code own_y12 jdk_65_method_120_code 4 (some (.array (.object "java/lang/Object"))) :: ws) own_r15) (fun a U => a = #[(.ref a1), (.int (1 : Int32)), (.ref a3)] ∧ Z.Warmed39 U.vm ∧ U.heap = h0) (fun _ _ _ _ _ => True) (fun _ U o U' => ∃ v L, o = .returned v ∧ Q_cpm1 Z a1 a3 kA vs t0 h0 n0 v U'.heap L ∧ FrameEnd U o U' L own_r15.cells own_r15.slots) := by
  refine MetFree.of_bodySF (plainFor_of_name pn_31) hisR ?_
  intro p e s m args below meth c s₁ Bd hml0 hP hK
  obtain ⟨rfl, hZ, hh⟩ := hP
  have hx := Bd.exec
  have hby := Bd.bytes
  have hml : c.maxLocals = 4 := hml0
  have hown : s.vm.findClass "java/util/Arrays" = some m.cls := findClass_of_methodNamed Bd.named
  have hnm := (name_of_methodNamed Bd.named Bd.method).1
  have X0 : Stand p l e own_r15 s m #[(.ref a1), (.int (1 : Int32)), (.ref a3)] below meth c s₁ [] 0 0 := Stand.of_body Bd
  have e0 : s₁.heap = h0 := by rw [← hh, Bd.state]; rfl
  have N0 := Fr.nil n0
  have pre0 : ∀ t, Steps p.tables e below (s₁.setTop (mkF m 0 #[.val (.ref a1), .val (.int (1 : Int32)), .val (.ref a3), .unset] [])) t → Steps p.tables e below (s₁.setTop (entryFrame m #[(.ref a1), (.int (1 : Int32)), (.ref a3)] 4)) t := fun t k => castTop (ef_31_1 m a1 a3) k
  obtain ⟨cl_a1, Ar_a1, -, S_a1, N_a1, -⟩ := id V_a1
  obtain ⟨T4, X4, e4, st4⟩ := own_ldcM X0 hx hZ hown (own_w hw 211 rfl) e0 Mr (g := (mkF m 1 #[.val (.ref a1), .val (.int (1 : Int32)), .val (.ref a3), .unset] [(.ref a3)])) rfl (hb hby d31_1)
  obtain ⟨T5, h5, k5, X5, e5, E5, A5, O5, st5⟩ := newR X4 hx hZ hown (own_w hw 212 rfl) (own_w hw 103 rfl) e4 (g := (mkF m 7 #[.val (.ref a1), .val (.int (1 : Int32)), .val (.ref a3), .unset] [(.int (1 : Int32))])) rfl (hb hby d31_7) rfl (by decide) (cap := 1) (by decide) (by decide) (by decide) (by decide)
  obtain ⟨b5, g5⟩ : ∃ z, z = h0.size := ⟨_, rfl⟩
  rw [← g5] at A5 st5
  have V_b5 := Arv.new A5 (by decide)
  have g_b5 : n0 ≤ b5 := Nat.le_trans Z0 (Nat.le_of_eq g5.symm)
  have sz_b5 : h0.size ≤ b5 := (Nat.le_trans (Keep.refl h0 []).1 (Nat.le_of_eq g5.symm))
  have K5 : Keep h0 h5 [] := (Keep.refl h0 []).ext E5
  obtain ⟨_, _, ⟨T6, L6, k6, n6⟩, -, X6, ⟨Lc6, hQ6, l6, y6, z6⟩, st6⟩ := Jvm.LawKit.callS X5 hx (y := own_y28) hown (mvT hZ (own_w hw 213 rfl)) (mvT hZ (own_w hw 214 rfl)) (mvT hZ (own_w hw 100 rfl)) (mvT hZ (own_w hw 215 rfl)) (by decide) (backOf (W := 4) (rm_min l Z a0 hw [] (10 : Int32) (1 : Int32)  h5 n0 (Nat.le_trans Z0 E5.1) (by decide)) hZ (own_w hw 215 rfl) (own_w hw 100 rfl) (by decide) (by decide)) (g := (mkF m 32 #[.val (.ref a1), .val (.int (1 : Int32)), .val (.ref a3), .val (.ref b5)] [(.int (1 : Int32)), (.int (10 : Int32)), (.int (0 : Int32)), (.ref b5), (.int (0 : Int32)), (.ref a1)])) rfl (by rw [hml]; rfl) (argsL := [(.int (10 : Int32)), (.int (1 : Int32))]) (rest := [(.int (0 : Int32)), (.ref b5), (.int (0 : Int32)), (.ref a1)]) (lenOf pd_31_11 rfl) rfl (Nat.le_of_eq rfl) (hb hby d31_32) (fun _ _ => ⟨rfl, e5, (by decide : 1 + 0 ≤ _), (by decide : 1 + 0 ≤ _)⟩)
  dsimp only [Pt.U, Pt.locs, Pt.cells, Pt.slots] at X6 l6 y6 z6 st6 hQ6
  subst l6 y6 z6
  obtain ⟨rfl, N6q, K6⟩ := hQ6
  have N6 := Fr.app N0 N6q
  have Vd7 : Arv Z h5 b5 k5 (.object "java/lang/Object") (1 : Int32) (List.replicate 1 .null) .null := (V_b5).pad (pad_rep [] .null 1)
  obtain ⟨T7, h7, L7, X7, e7, N7, K7, V7, st7⟩ := cpA X6 hx hZ hown (own_w hw 216 rfl) (own_w hw 219 rfl) (own_w hw 217 rfl) (own_w hw 218 rfl) K6 (V_a1.ext E5) Vd7 (us := [.ref t0]) (Or.inr ⟨rfl, rfl, ⟨own_sto Vd7 O5 (I_t0.ext E5), trivial⟩⟩) (sp := 0) (dp := 0) (nn := (1 : Int32)) (by decide) (by decide) (by decide) (by decide) (by decide) (by show _ = [vs.getD 0 .null]; rw [hv0]) (by decide) N6 g_b5 (g := (mkF m 35 #[.val (.ref a1), .val (.int (1 : Int32)), .val (.ref a3), .val (.ref b5)] [(.int (1 : Int32)), (.int (0 : Int32)), (.ref b5), (.int (0 : Int32)), (.ref a1)])) rfl (by rw [hml]; rfl) rfl (hb hby d31_35) (by decide) (W := 0) (Nat.le_of_eq rfl) (by decide)
  have Kc7 : Keep h0 h7 [] := K5.trans K7 (allS (Or.inr sz_b5) all0)
  obtain ⟨fs, hr, hrun, hended, hW, hsame⟩ := X7.leave (v := some (.ref b5)) (fun h => by rw [Bd.returns] at h; cases h)
  refine ⟨_, _, pre0 _ ?_, hrun, hended, _, _, rfl, ?_, ⟨_, rfl⟩, hW, hsame.mono (by decide) (by decide)⟩
  · show Steps _ _ _ (s₁.setTop (mkF m 0 #[.val (.ref a1), .val (.int (1 : Int32)), .val (.ref a3), .unset] [])) _
    refine XS.aloadN X0.here hx rfl (hb hby d31_0) rfl rfl ?_
    show Steps _ _ _ (s₁.setTop (mkF m 1 #[.val (.ref a1), .val (.int (1 : Int32)), .val (.ref a3), .unset] [(.ref a3)])) _
    refine st4 _ ?_
    show Steps _ _ _ (T4.setTop (mkF m 3 #[.val (.ref a1), .val (.int (1 : Int32)), .val (.ref a3), .unset] [(.ref a3), (.ref a3)])) _
    refine Jvm.RoadKit.acmp (g := (mkF m 3 #[.val (.ref a1), .val (.int (1 : Int32)), .val (.ref a3), .unset] [(.ref a3), (.ref a3)])) X4 hx rfl rfl rfl (pc0 := 3) (pc' := 6) (same := true) rfl (hb hby d31_3) rfl (decide_eq_true rfl) (by decide) (by decide) ?_
    show Steps _ _ _ (T4.setTop (mkF m 6 #[.val (.ref a1), .val (.int (1 : Int32)), .val (.ref a3), .unset] [])) _
    refine XS.iloadN X4.here hx rfl (hb hby d31_6) rfl ?_
    show Steps _ _ _ (T4.setTop (mkF m 7 #[.val (.ref a1), .val (.int (1 : Int32)), .val (.ref a3), .unset] [(.int (1 : Int32))])) _
    refine st5 _ ?_
    show Steps _ _ _ (T5.setTop (mkF m 10 #[.val (.ref a1), .val (.int (1 : Int32)), .val (.ref a3), .unset] [(.ref b5)])) _
    refine XS.goto X5.here hx rfl (pc0 := 10) (pc' := 24) rfl (hb hby d31_10) (by decide) (by decide) ?_
    refine XS.astoreN X5.here hx rfl (hb hby d31_24) rfl rfl (l' := #[.val (.ref a1), .val (.int (1 : Int32)), .val (.ref a3), .val (.ref b5)]) rfl ?_
    refine XS.aloadN X5.here hx rfl (hb hby d31_25) rfl rfl ?_
    refine XS.iconst X5.here hx rfl (hb hby d31_26) ?_
    show Steps _ _ _ (T5.setTop (mkF m 27 #[.val (.ref a1), .val (.int (1 : Int32)), .val (.ref a3), .val (.ref b5)] [(.int (0 : Int32)), (.ref a1)])) _
    refine XS.aloadN X5.here hx rfl (hb hby d31_27) rfl rfl ?_
    refine XS.iconst X5.here hx rfl (hb hby d31_28) ?_
    refine XS.aloadN X5.here hx rfl (hb hby d31_29) rfl rfl ?_
    show Steps _ _ _ (T5.setTop (mkF m 30 #[.val (.ref a1), .val (.int (1 : Int32)), .val (.ref a3), .val (.ref b5)] [(.ref a1), (.int (0 : Int32)), (.ref b5), (.int (0 : Int32)), (.ref a1)])) _
    refine X5.arraylength hx (by rw [e5]; exact (Ar_a1.ext E5).1) (State.isArrayOf_alike hZ.alike Ar_a1.2.1) (g := (mkF m 30 #[.val (.ref a1), .val (.int (1 : Int32)), .val (.ref a3), .val (.ref b5)] [(.ref a1), (.int (0 : Int32)), (.ref b5), (.int (0 : Int32)), (.ref a1)])) rfl rfl (hb hby d31_30) _ ?_
    rw [len_of S_a1 N_a1]
    show Steps _ _ _ (T5.setTop (mkF m 31 #[.val (.ref a1), .val (.int (1 : Int32)), .val (.ref a3), .val (.ref b5)] [(.int (10 : Int32)), (.int (0 : Int32)), (.ref b5), (.int (0 : Int32)), (.ref a1)])) _
    refine XS.iloadN X5.here hx rfl (hb hby d31_31) rfl ?_
    show Steps _ _ _ (T5.setTop (mkF m 32 #[.val (.ref a1), .val (.int (1 : Int32)), .val (.ref a3), .val (.ref b5)] [(.int (1 : Int32)), (.int (10 : Int32)), (.int (0 : Int32)), (.ref b5), (.int (0 : Int32)), (.ref a1)])) _
    refine st6 _ ?_
    show Steps _ _ _ (T6.setTop (mkF m 35 #[.val (.ref a1), .val (.int (1 : Int32)), .val (.ref a3), .val (.ref b5)] [(.int (1 : Int32)), (.int (0 : Int32)), (.ref b5), (.int (0 : Int32)), (.ref a1)])) _
    refine st7 _ ?_
    show Steps _ _ _ (T7.setTop (mkF m 38 #[.val (.ref a1), .val (.int (1 : Int32)), .val (.ref a3), .val (.ref b5)] [])) _
    refine XS.aloadN X7.here hx rfl (hb hby d31_38) rfl rfl ?_
    show Steps _ _ _ (T7.setTop (mkF m 39 #[.val (.ref a1), .val (.int (1 : Int32)), .val (.ref a3), .val (.ref b5)] [(.ref b5)])) _
    jvm_step X7.here [X7.here.top, hx, (hb hby d31_39), X7.method', Bd.returns, Value.isRef, FieldType.isReference]
    first | (intro acts; rw [hr _ acts rfl rfl rfl]) | rw [hr _ _ rfl rfl rfl]
    exact Steps.refl _
  · show Q_cpm1 Z a1 a3 kA vs t0 h0 n0 _ T7.heap _
    rw [e7]
    exact ⟨b5, k5, rfl, N7, own_ext Kc7, V7, O5, g_b5, sz_b5⟩
theorem d30_0 : decode jdk_65_method_119_code 0 = .ok (.aload_n 0, 1) := by decide +kernel
theorem d30_1 : decode jdk_65_method_119_code 1 = .ok (.iload_n 1, 1) := by decide +kernel
theorem d30_2 : decode jdk_65_method_119_code 2 = .ok (.aload_n 0, 1) := by decide +kernel
theorem d30_3 : decode jdk_65_method_119_code 3 = .ok (.invokevirtual 86, 3) := by decide +kernel
theorem d30_6 : decode jdk_65_method_119_code 6 = .ok (.invokestatic 300, 3) := by decide +kernel
theorem d30_9 : decode jdk_65_method_119_code 9 = .ok (.areturn, 1) := by decide +kernel
theorem pn_30 : plainName "java/util/Arrays" = true := by first | (simp [plainName, overriddenIn]; done) | decide +kernel
theorem pd_30_23 : parseMethodDescriptor "([Ljava/lang/Object;ILjava/lang/Class;)[Ljava/lang/Object;" = some ⟨[(.array (.object "java/lang/Object")), .int, (.object "java/lang/Class")], some (.array (.object "java/lang/Object"))⟩ := by decide +kernel
theorem ef_30_1 (m : MethodId) (x0 : Addr) : entryFrame m #[(.ref x0), (.int (1 : Int32))] 2 = mkF m 0 #[.val (.ref x0), .val (.int (1 : Int32))] [] := by first | (simp [entryFrame, mkF, argsToLocals, Value.category]; done) | rfl
def Q_cpo1 (Z : State) (a1 : Addr) (kA : ClassId) (vs : List Value) (t0 : Addr) (aM : Addr) (h0 : Heap) (n0 : Nat) (v : Option Value) (h : Heap) (L : List Loc) : Prop := ∃ b k2, v = some (.ref b) ∧ Fr n0 L ∧ Ext h0 h ∧ Arv Z h b k2 (.object "java/lang/Object") (1 : Int32) [.ref t0] .null ∧ Ovr Z k2 "java/lang/Object" ∧ n0 ≤ b ∧ h0.size ≤ b
theorem rm_cpo1 (l : Launch) (Z : State) (a0 : Array Value) (hw : ∀ d ∈ tables_1, d.before a0 Z = true) (ws : List Jvm.Cond) (a1 : Addr) (kA : ClassId) (vs : List Value) (t0 : Addr) (aM : Addr) (h0 : Heap) (n0 : Nat) (Z0 : n0 ≤ h0.size) (V_a1 : Arv Z h0 a1 kA (.object "java/lang/Object") (10 : Int32) vs .null) (E_a1 : Exa Z h0 a1 "[Ljava/lang/Object;") (Mr : own_mir Z "[Ljava/lang/Object;" aM) (hv0 : vs.getD 0 .null = .ref t0) (I_t0 : Ins Z h0 t0 "java/lang/Object" true) :
    MetFree l own_y13 (head1 (Jvm.Cond.code own_y13 jdk_65_method_119_code 2 (some (.array (.object "java/lang/Object"))) :: ws) own_r16) (fun a U => a = #[(.ref a1), (.int (1 : Int32))] ∧ Z.Warmed39 U.vm ∧ U.heap = h0) (fun _ _ _ _ _ => True) (fun _ U o U' => ∃ v L, o = .returned v ∧ Q_cpo1 Z a1 kA vs t0 aM h0 n0 v U'.heap L ∧ FrameEnd U o U' L own_r16.cells own_r16.slots) := by
  refine MetFree.of_bodySF (plainFor_of_name pn_30) hisR ?_
  intro p e s m args below meth c s₁ Bd hml0 hP hK
  obtain ⟨rfl, hZ, hh⟩ := hP
  have hx := Bd.exec
  have hby := Bd.bytes
  have hml : c.maxLocals = 2 := hml0
  have hown : s.vm.findClass "java/util/Arrays" = some m.cls := findClass_of_methodNamed Bd.named
  have hnm := (name_of_methodNamed Bd.named Bd.method).1
  have X0 : Stand p l e own_r16 s m #[(.ref a1), (.int (1 : Int32))] below meth c s₁ [] 0 0 := Stand.of_body Bd
  have e0 : s₁.heap = h0 := by rw [← hh, Bd.state]; rfl
  have N0 := Fr.nil n0
  have pre0 : ∀ t, Steps p.tables e below (s₁.setTop (mkF m 0 #[.val (.ref a1), .val (.int (1 : Int32))] [])) t → Steps p.tables e below (s₁.setTop (entryFrame m #[(.ref a1), (.int (1 : Int32))] 2)) t := fun t k => castTop (ef_30_1 m a1) k
  obtain ⟨T3, X3, e3, st3⟩ := own_gcls X0 hx hZ hown (own_w hw 202 rfl) (own_w hw 203 rfl) (own_w hw 147 rfl) (own_w hw 205 rfl) (own_w hw 204 rfl) (own_w hw 206 rfl) e0 E_a1 Mr (g := (mkF m 3 #[.val (.ref a1), .val (.int (1 : Int32))] [(.ref a1), (.int (1 : Int32)), (.ref a1)])) rfl (by rw [hml]; rfl) rfl (hb hby d30_3) (by decide) (W := 2) (Nat.le_of_eq rfl) (by decide)
  obtain ⟨_, _, ⟨T4, L4, k4, n4⟩, -, X4, ⟨Lc4, hQ4, l4, y4, z4⟩, st4⟩ := Jvm.LawKit.callS X3 hx (y := own_y12) hown (mvT hZ (own_w hw 208 rfl)) (mvT hZ (own_w hw 209 rfl)) (mvT hZ (own_w hw 200 rfl)) (mvT hZ (own_w hw 210 rfl)) (by decide) (backOf (W := 0) (rm_cpm1 l Z a0 hw [] a1 aM kA vs t0 h0 n0 Z0 V_a1 Mr hv0 I_t0) hZ (own_w hw 210 rfl) (own_w hw 200 rfl) (by decide) (by decide)) (g := (mkF m 6 #[.val (.ref a1), .val (.int (1 : Int32))] [(.ref aM), (.int (1 : Int32)), (.ref a1)])) rfl (by rw [hml]; rfl) (argsL := [(.ref a1), (.int (1 : Int32)), (.ref aM)]) (rest := []) (lenOf pd_30_23 rfl) rfl (Nat.le_of_eq rfl) (hb hby d30_6) (fun _ _ => ⟨rfl, e3, (by decide : 0 + 1 ≤ _), (by decide : 0 + 1 ≤ _)⟩)
  dsimp only [Pt.U, Pt.locs, Pt.cells, Pt.slots] at X4 l4 y4 z4 st4 hQ4
  subst l4 y4 z4
  obtain ⟨bC, kC, rfl, N4q, Ex4, Vc, Oc, gc, sc⟩ := hQ4
  have N4 := Fr.app N0 N4q
  obtain ⟨fs, hr, hrun, hended, hW, hsame⟩ := X4.leave (v := some (.ref bC)) (fun h => by rw [Bd.returns] at h; cases h)
  refine ⟨_, _, pre0 _ ?_, hrun, hended, _, _, rfl, ?_, ⟨_, rfl⟩, hW, hsame.mono (by decide) (by decide)⟩
  · show Steps _ _ _ (s₁.setTop (mkF m 0 #[.val (.ref a1), .val (.int (1 : Int32))] [])) _
    refine XS.aloadN X0.here hx rfl (hb hby d30_0) rfl rfl ?_
    refine XS.iloadN X0.here hx rfl (hb hby d30_1) rfl ?_
    refine XS.aloadN X0.here hx rfl (hb hby d30_2) rfl rfl ?_
    show Steps _ _ _ (s₁.setTop (mkF m 3 #[.val (.ref a1), .val (.int (1 : Int32))] [(.ref a1), (.int (1 : Int32)), (.ref a1)])) _
    refine st3 _ ?_
    show Steps _ _ _ (T3.setTop (mkF m 6 #[.val (.ref a1), .val (.int (1 : Int32))] [(.ref aM), (.int (1 : Int32)), (.ref a1)])) _
    refine st4 _ ?_
    show Steps _ _ _ (T4.setTop (mkF m 9 #[.val (.ref a1), .val (.int (1 : Int32))] [(.ref bC)])) _
    jvm_step X4.here [X4.here.top, hx, (hb hby d30_9), X4.method', Bd.returns, Value.isRef, FieldType.isReference]
    first | (intro acts; rw [hr _ acts rfl rfl rfl]) | rw [hr _ _ rfl rfl rfl]
    exact Steps.refl _
  · show Q_cpo1 Z a1 kA vs t0 aM h0 n0 _ T4.heap _
    exact ⟨bC, kC, rfl, N4, Ex4, Vc, Oc, gc, sc⟩
theorem d29_0 : decode jdk_38_method_16_code 0 = .ok (.aload_n 0, 1) := by decide +kernel
theorem d29_1 : decode jdk_38_method_16_code 1 = .ok (.getfield 9, 3) := by decide +kernel
theorem d29_4 : decode jdk_38_method_16_code 4 = .ok (.aload_n 0, 1) := by decide +kernel
theorem d29_5 : decode jdk_38_method_16_code 5 = .ok (.getfield 48, 3) := by decide +kernel
theorem d29_8 : decode jdk_38_method_16_code 8 = .ok (.invokestatic 66, 3) := by decide +kernel
theorem d29_11 : decode jdk_38_method_16_code 11 = .ok (.areturn, 1) := by decide +kernel
theorem pn_29 : plainName "java/util/ArrayList" = true := by first | (simp [plainName, overriddenIn]; done) | decide +kernel
theorem pd_29_21 : parseMethodDescriptor "([Ljava/lang/Object;I)[Ljava/lang/Object;" = some ⟨[(.array (.object "java/lang/Object")), .int], some (.array (.object "java/lang/Object"))⟩ := by decide +kernel
theorem ef_29 (m : MethodId) (x0 : Addr) : entryFrame m #[(.ref x0)] 1 = mkF m 0 #[.val (.ref x0)] [] := by first | (simp [entryFrame, mkF, argsToLocals, Value.category]; done) | rfl
def Q_toA1 (Z : State) (a1 : Addr) (kA : ClassId) (vs : List Value) (t0 : Addr) (aE : Addr) (aM : Addr) (h0 : Heap) (n0 : Nat) (v : Option Value) (h : Heap) (L : List Loc) : Prop := ∃ b k2, v = some (.ref b) ∧ Fr n0 L ∧ Ext h0 h ∧ Arv Z h b k2 (.object "java/lang/Object") (1 : Int32) [.ref t0] .null ∧ Ovr Z k2 "java/lang/Object" ∧ n0 ≤ b ∧ h0.size ≤ b
theorem rm_toA1 (l : Launch) (Z : State) (a0 : Array Value) (hw : ∀ d ∈ tables_1, d.before a0 Z = true) (ws : List Jvm.Cond) (a1 : Addr) (kA : ClassId) (vs : List Value) (t0 : Addr) (aE : Addr) (aM : Addr) (h0 : Heap) (n0 : Nat) (Z0 : n0 ≤ h0.size) (Fe_a1 : Fld Z h0 a1 "java/util/ArrayList" "elementData" "[Ljava/lang/Object;" (.ref aE)) (Fs_a1 : Fld Z h0 a1 "java/util/ArrayList" "size" "I" (.int (1 : Int32))) (V_aE : Arv Z h0 aE kA (.object "java/lang/Object") (10 : Int32) vs .null) (E_aE : Exa Z h0 aE "[Ljava/lang/Object;") (Mr : own_mir Z "[Ljava/lang/Object;" aM) (hv0 : vs.getD 0 .null = .ref t0) (I_t0 : Ins Z h0 t0 "java/lang/Object" true) :
    MetFree l own_y14 (head1 (Jvm.Cond.code own_y14 jdk_38_method_16_code 1 (some (.array (.object "java/lang/Object"))) :: ws) own_r17) (fun a U => a = #[(.ref a1)] ∧ Z.Warmed39 U.vm ∧ U.heap = h0) (fun _ _ _ _ _ => True) (fun _ U o U' => ∃ v L, o = .returned v ∧ Q_toA1 Z a1 kA vs t0 aE aM h0 n0 v U'.heap L ∧ FrameEnd U o U' L own_r17.cells own_r17.slots) := by
  refine MetFree.of_bodySF (plainFor_of_name pn_29) hisR ?_
  intro p e s m args below meth c s₁ Bd hml0 hP hK
  obtain ⟨rfl, hZ, hh⟩ := hP
  have hx := Bd.exec
  have hby := Bd.bytes
  have hml : c.maxLocals = 1 := hml0
  have hown : s.vm.findClass "java/util/ArrayList" = some m.cls := findClass_of_methodNamed Bd.named
  have hnm := (name_of_methodNamed Bd.named Bd.method).1
  have X0 : Stand p l e own_r17 s m #[(.ref a1)] below meth c s₁ [] 0 0 := Stand.of_body Bd
  have e0 : s₁.heap = h0 := by rw [← hh, Bd.state]; rfl
  have N0 := Fr.nil n0
  have pre0 : ∀ t, Steps p.tables e below (s₁.setTop (mkF m 0 #[.val (.ref a1)] [])) t → Steps p.tables e below (s₁.setTop (entryFrame m #[(.ref a1)] 1)) t := fun t k => castTop (ef_29 m a1) k
  obtain ⟨T2, X2, e2, st2⟩ := getF X0 hx hZ hown (host := "") (Or.inl (own_w hw 48 rfl)) Via.refl e0 Fe_a1 (g := (mkF m 1 #[.val (.ref a1)] [(.ref a1)])) rfl rfl (hb hby d29_1)
  obtain ⟨T3, X3, e3, st3⟩ := getF X2 hx hZ hown (host := "") (Or.inl (own_w hw 81 rfl)) Via.refl e2 Fs_a1 (g := (mkF m 5 #[.val (.ref a1)] [(.ref a1), (.ref aE)])) rfl rfl (hb hby d29_5)
  obtain ⟨_, _, ⟨T4, L4, k4, n4⟩, -, X4, ⟨Lc4, hQ4, l4, y4, z4⟩, st4⟩ := Jvm.LawKit.callS X3 hx (y := own_y13) hown (mvT hZ (own_w hw 198 rfl)) (mvT hZ (own_w hw 199 rfl)) (mvT hZ (own_w hw 200 rfl)) (mvT hZ (own_w hw 201 rfl)) (by decide) (backOf (W := 0) (rm_cpo1 l Z a0 hw [] aE kA vs t0 aM h0 n0 Z0 V_aE E_aE Mr hv0 I_t0) hZ (own_w hw 201 rfl) (own_w hw 200 rfl) (by decide) (by decide)) (g := (mkF m 8 #[.val (.ref a1)] [(.int (1 : Int32)), (.ref aE)])) rfl (by rw [hml]; rfl) (argsL := [(.ref aE), (.int (1 : Int32))]) (rest := []) (lenOf pd_29_21 rfl) rfl (Nat.le_of_eq rfl) (hb hby d29_8) (fun _ _ => ⟨rfl, e3, (by decide : 0 + 1 ≤ _), (by decide : 0 + 1 ≤ _)⟩)
  dsimp only [Pt.U, Pt.locs, Pt.cells, Pt.slots] at X4 l4 y4 z4 st4 hQ4
  subst l4 y4 z4
  obtain ⟨bC, kC, rfl, N4q, ExC, Vc, Oc, gc, sc⟩ := hQ4
  have N4 := Fr.app N0 N4q
  obtain ⟨fs, hr, hrun, hended, hW, hsame⟩ := X4.leave (v := some (.ref bC)) (fun h => by rw [Bd.returns] at h; cases h)
  refine ⟨_, _, pre0 _ ?_, hrun, hended, _, _, rfl, ?_, ⟨_, rfl⟩, hW, hsame.mono (by decide) (by decide)⟩
  · show Steps _ _ _ (s₁.setTop (mkF m 0 #[.val (.ref a1)] [])) _
    refine XS.aloadN X0.here hx rfl (hb hby d29_0) rfl rfl ?_
    show Steps _ _ _ (s₁.setTop (mkF m 1 #[.val (.ref a1)] [(.ref a1)])) _
    refine st2 _ ?_
    show Steps _ _ _ (T2.setTop (mkF m 4 #[.val (.ref a1)] [(.ref aE)])) _
    refine XS.aloadN X2.here hx rfl (hb hby d29_4) rfl rfl ?_
    show Steps _ _ _ (T2.setTop (mkF m 5 #[.val (.ref a1)] [(.ref a1), (.ref aE)])) _
    refine st3 _ ?_
    show Steps _ _ _ (T3.setTop (mkF m 8 #[.val (.ref a1)] [(.int (1 : Int32)), (.ref aE)])) _
    refine st4 _ ?_
    show Steps _ _ _ (T4.setTop (mkF m 11 #[.val (.ref a1)] [(.ref bC)])) _
    jvm_step X4.here [X4.here.top, hx, (hb hby d29_11), X4.method', Bd.returns, Value.isRef, FieldType.isReference]
    first | (intro acts; rw [hr _ acts rfl rfl rfl]) | rw [hr _ _ rfl rfl rfl]
    exact Steps.refl _
  · show Q_toA1 Z a1 kA vs t0 aE aM h0 n0 _ T4.heap _
    exact ⟨bC, kC, rfl, N4, ExC, Vc, Oc, gc, sc⟩
theorem ef_31_2 (m : MethodId) (x0 : Addr) (x2 : Addr) : entryFrame m #[(.ref x0), (.int (2 : Int32)), (.ref x2)] 4 = mkF m 0 #[.val (.ref x0), .val (.int (2 : Int32)), .val (.ref x2), .unset] [] := by first | (simp [entryFrame, mkF, argsToLocals, Value.category]; done) | rfl
def Q_cpm2 (Z : State) (a1 : Addr) (a3 : Addr) (kA : ClassId) (vs : List Value) (t0 : Addr) (t1 : Addr) (h0 : Heap) (n0 : Nat) (v : Option Value) (h : Heap) (L : List Loc) : Prop := ∃ b k2, v = some (.ref b) ∧ Fr n0 L ∧ Ext h0 h ∧ Arv Z h b k2 (.object "java/lang/Object") (2 : Int32) [.ref t0, .ref t1] .null ∧ Ovr Z k2 "java/lang/Object" ∧ n0 ≤ b ∧ h0.size ≤ b
theorem rm_cpm2 (l : Launch) (Z : State) (a0 : Array Value) (hw : ∀ d ∈ tables_1, d.before a0 Z = true) (ws : List Jvm.Cond) (a1 : Addr) (a3 : Addr) (kA : ClassId) (vs : List Value) (t0 : Addr) (t1 : Addr) (h0 : Heap) (n0 : Nat) (Z0 : n0 ≤ h0.size) (V_a1 : Arv Z h0 a1 kA (.object "java/lang/Object") (10 : Int32) vs .null) (Mr : own_mir Z "[Ljava/lang/Object;" a3) (hv0 : vs.getD 0 .null = .ref t0) (hv1 : vs.getD 1 .null = .ref t1) (I_t0 : Ins Z h0 t0 "java/lang/Object" true) (I_t1 : Ins Z h0 t1 "java/lang/Object" true) :
    MetFree l own_y12 (head1 (Jvm.Cond.code own_y12 jdk_65_method_120_code 4 (some (.array (.object "java/lang/Object"))) :: ws) own_r18) (fun a U => a = #[(.ref a1), (.int (2 : Int32)), (.ref a3)] ∧ Z.Warmed39 U.vm ∧ U.heap = h0) (fun _ _ _ _ _ => True) (fun _ U o U' => ∃ v L, o = .returned v ∧ Q_cpm2 Z a1 a3 kA vs t0 t1 h0 n0 v U'.heap L ∧ FrameEnd U o U' L own_r18.cells own_r18.slots) := by
  refine MetFree.of_bodySF (plainFor_of_name pn_31) hisR ?_
  intro p e s m args below meth c s₁ Bd hml0 hP hK
  obtain ⟨rfl, hZ, hh⟩ := hP
  have hx := Bd.exec
  have hby := Bd.bytes
  have hml : c.maxLocals = 4 := hml0
  have hown : s.vm.findClass "java/util/Arrays" = some m.cls := findClass_of_methodNamed Bd.named
  have hnm := (name_of_methodNamed Bd.named Bd.method).1
  have X0 : Stand p l e own_r18 s m #[(.ref a1), (.int (2 : Int32)), (.ref a3)] below meth c s₁ [] 0 0 := Stand.of_body Bd
  have e0 : s₁.heap = h0 := by rw [← hh, Bd.state]; rfl
  have N0 := Fr.nil n0
  have pre0 : ∀ t, Steps p.tables e below (s₁.setTop (mkF m 0 #[.val (.ref a1), .val (.int (2 : Int32)), .val (.ref a3), .unset] [])) t → Steps p.tables e below (s₁.setTop (entryFrame m #[(.ref a1), (.int (2 : Int32)), (.ref a3)] 4)) t := fun t k => castTop (ef_31_2 m a1 a3) k
  obtain ⟨cl_a1, Ar_a1, -, S_a1, N_a1, -⟩ := id V_a1
  obtain ⟨T4, X4, e4, st4⟩ := own_ldcM X0 hx hZ hown (own_w hw 211 rfl) e0 Mr (g := (mkF m 1 #[.val (.ref a1), .val (.int (2 : Int32)), .val (.ref a3), .unset] [(.ref a3)])) rfl (hb hby d31_1)
  obtain ⟨T5, h5, k5, X5, e5, E5, A5, O5, st5⟩ := newR X4 hx hZ hown (own_w hw 212 rfl) (own_w hw 103 rfl) e4 (g := (mkF m 7 #[.val (.ref a1), .val (.int (2 : Int32)), .val (.ref a3), .unset] [(.int (2 : Int32))])) rfl (hb hby d31_7) rfl (by decide) (cap := 2) (by decide) (by decide) (by decide) (by decide)
  obtain ⟨b5, g5⟩ : ∃ z, z = h0.size := ⟨_, rfl⟩
  rw [← g5] at A5 st5
  have V_b5 := Arv.new A5 (by decide)
  have g_b5 : n0 ≤ b5 := Nat.le_trans Z0 (Nat.le_of_eq g5.symm)
  have sz_b5 : h0.size ≤ b5 := (Nat.le_trans (Keep.refl h0 []).1 (Nat.le_of_eq g5.symm))
  have K5 : Keep h0 h5 [] := (Keep.refl h0 []).ext E5
  obtain ⟨_, _, ⟨T6, L6, k6, n6⟩, -, X6, ⟨Lc6, hQ6, l6, y6, z6⟩, st6⟩ := Jvm.LawKit.callS X5 hx (y := own_y28) hown (mvT hZ (own_w hw 213 rfl)) (mvT hZ (own_w hw 214 rfl)) (mvT hZ (own_w hw 100 rfl)) (mvT hZ (own_w hw 215 rfl)) (by decide) (backOf (W := 4) (rm_min l Z a0 hw [] (10 : Int32) (2 : Int32)  h5 n0 (Nat.le_trans Z0 E5.1) (by decide)) hZ (own_w hw 215 rfl) (own_w hw 100 rfl) (by decide) (by decide)) (g := (mkF m 32 #[.val (.ref a1), .val (.int (2 : Int32)), .val (.ref a3), .val (.ref b5)] [(.int (2 : Int32)), (.int (10 : Int32)), (.int (0 : Int32)), (.ref b5), (.int (0 : Int32)), (.ref a1)])) rfl (by rw [hml]; rfl) (argsL := [(.int (10 : Int32)), (.int (2 : Int32))]) (rest := [(.int (0 : Int32)), (.ref b5), (.int (0 : Int32)), (.ref a1)]) (lenOf pd_31_11 rfl) rfl (Nat.le_of_eq rfl) (hb hby d31_32) (fun _ _ => ⟨rfl, e5, (by decide : 1 + 0 ≤ _), (by decide : 2 + 0 ≤ _)⟩)
  dsimp only [Pt.U, Pt.locs, Pt.cells, Pt.slots] at X6 l6 y6 z6 st6 hQ6
  subst l6 y6 z6
  obtain ⟨rfl, N6q, K6⟩ := hQ6
  have N6 := Fr.app N0 N6q
  have Vd7 : Arv Z h5 b5 k5 (.object "java/lang/Object") (2 : Int32) (List.replicate 2 .null) .null := (V_b5).pad (pad_rep [] .null 2)
  obtain ⟨T7, h7, L7, X7, e7, N7, K7, V7, st7⟩ := cpA X6 hx hZ hown (own_w hw 216 rfl) (own_w hw 219 rfl) (own_w hw 217 rfl) (own_w hw 218 rfl) K6 (V_a1.ext E5) Vd7 (us := [.ref t0, .ref t1]) (Or.inr ⟨rfl, rfl, ⟨own_sto Vd7 O5 (I_t0.ext E5), own_sto Vd7 O5 (I_t1.ext E5), trivial⟩⟩) (sp := 0) (dp := 0) (nn := (2 : Int32)) (by decide) (by decide) (by decide) (by decide) (by decide) (by show _ = [vs.getD 0 .null, vs.getD 1 .null]; rw [hv0, hv1]) (by decide) N6 g_b5 (g := (mkF m 35 #[.val (.ref a1), .val (.int (2 : Int32)), .val (.ref a3), .val (.ref b5)] [(.int (2 : Int32)), (.int (0 : Int32)), (.ref b5), (.int (0 : Int32)), (.ref a1)])) rfl (by rw [hml]; rfl) rfl (hb hby d31_35) (by decide) (W := 0) (Nat.le_of_eq rfl) (by decide)
  have Kc7 : Keep h0 h7 [] := K5.trans K7 (allS (Or.inr sz_b5) all0)
  obtain ⟨fs, hr, hrun, hended, hW, hsame⟩ := X7.leave (v := some (.ref b5)) (fun h => by rw [Bd.returns] at h; cases h)
  refine ⟨_, _, pre0 _ ?_, hrun, hended, _, _, rfl, ?_, ⟨_, rfl⟩, hW, hsame.mono (by decide) (by decide)⟩
  · show Steps _ _ _ (s₁.setTop (mkF m 0 #[.val (.ref a1), .val (.int (2 : Int32)), .val (.ref a3), .unset] [])) _
    refine XS.aloadN X0.here hx rfl (hb hby d31_0) rfl rfl ?_
    show Steps _ _ _ (s₁.setTop (mkF m 1 #[.val (.ref a1), .val (.int (2 : Int32)), .val (.ref a3), .unset] [(.ref a3)])) _
    refine st4 _ ?_
    show Steps _ _ _ (T4.setTop (mkF m 3 #[.val (.ref a1), .val (.int (2 : Int32)), .val (.ref a3), .unset] [(.ref a3), (.ref a3)])) _
    refine Jvm.RoadKit.acmp (g := (mkF m 3 #[.val (.ref a1), .val (.int (2 : Int32)), .val (.ref a3), .unset] [(.ref a3), (.ref a3)])) X4 hx rfl rfl rfl (pc0 := 3) (pc' := 6) (same := true) rfl (hb hby d31_3) rfl (decide_eq_true rfl) (by decide) (by decide) ?_
    show Steps _ _ _ (T4.setTop (mkF m 6 #[.val (.ref a1), .val (.int (2 : Int32)), .val (.ref a3), .unset] [])) _
    refine XS.iloadN X4.here hx rfl (hb hby d31_6) rfl ?_
    show Steps _ _ _ (T4.setTop (mkF m 7 #[.val (.ref a1), .val (.int (2 : Int32)), .val (.ref a3), .unset] [(.int (2 : Int32))])) _
    refine st5 _ ?_
    show Steps _ _ _ (T5.setTop (mkF m 10 #[.val (.ref a1), .val (.int (2 : Int32)), .val (.ref a3), .unset] [(.ref b5)])) _
    refine XS.goto X5.here hx rfl (pc0 := 10) (pc' := 24) rfl (hb hby d31_10) (by decide) (by decide) ?_
    refine XS.astoreN X5.here hx rfl (hb hby d31_24) rfl rfl (l' := #[.val (.ref a1), .val (.int (2 : Int32)), .val (.ref a3), .val (.ref b5)]) rfl ?_
    refine XS.aloadN X5.here hx rfl (hb hby d31_25) rfl rfl ?_
    refine XS.iconst X5.here hx rfl (hb hby d31_26) ?_
    show Steps _ _ _ (T5.setTop (mkF m 27 #[.val (.ref a1), .val (.int (2 : Int32)), .val (.ref a3), .val (.ref b5)] [(.int (0 : Int32)), (.ref a1)])) _
    refine XS.aloadN X5.here hx rfl (hb hby d31_27) rfl rfl ?_
    refine XS.iconst X5.here hx rfl (hb hby d31_28) ?_
    refine XS.aloadN X5.here hx rfl (hb hby d31_29) rfl rfl ?_
    show Steps _ _ _ (T5.setTop (mkF m 30 #[.val (.ref a1), .val (.int (2 : Int32)), .val (.ref a3), .val (.ref b5)] [(.ref a1), (.int (0 : Int32)), (.ref b5), (.int (0 : Int32)), (.ref a1)])) _
    refine X5.arraylength hx (by rw [e5]; exact (Ar_a1.ext E5).1) (State.isArrayOf_alike hZ.alike Ar_a1.2.1) (g := (mkF m 30 #[.val (.ref a1), .val (.int (2 : Int32)), .val (.ref a3), .val (.ref b5)] [(.ref a1), (.int (0 : Int32)), (.ref b5), (.int (0 : Int32)), (.ref a1)])) rfl rfl (hb hby d31_30) _ ?_
    rw [len_of S_a1 N_a1]
    show Steps _ _ _ (T5.setTop (mkF m 31 #[.val (.ref a1), .val (.int (2 : Int32)), .val (.ref a3), .val (.ref b5)] [(.int (10 : Int32)), (.int (0 : Int32)), (.ref b5), (.int (0 : Int32)), (.ref a1)])) _
    refine XS.iloadN X5.here hx rfl (hb hby d31_31) rfl ?_
    show Steps _ _ _ (T5.setTop (mkF m 32 #[.val (.ref a1), .val (.int (2 : Int32)), .val (.ref a3), .val (.ref b5)] [(.int (2 : Int32)), (.int (10 : Int32)), (.int (0 : Int32)), (.ref b5), (.int (0 : Int32)), (.ref a1)])) _
    refine st6 _ ?_
    show Steps _ _ _ (T6.setTop (mkF m 35 #[.val (.ref a1), .val (.int (2 : Int32)), .val (.ref a3), .val (.ref b5)] [(.int (2 : Int32)), (.int (0 : Int32)), (.ref b5), (.int (0 : Int32)), (.ref a1)])) _
    refine st7 _ ?_
    show Steps _ _ _ (T7.setTop (mkF m 38 #[.val (.ref a1), .val (.int (2 : Int32)), .val (.ref a3), .val (.ref b5)] [])) _
    refine XS.aloadN X7.here hx rfl (hb hby d31_38) rfl rfl ?_
    show Steps _ _ _ (T7.setTop (mkF m 39 #[.val (.ref a1), .val (.int (2 : Int32)), .val (.ref a3), .val (.ref b5)] [(.ref b5)])) _
    jvm_step X7.here [X7.here.top, hx, (hb hby d31_39), X7.method', Bd.returns, Value.isRef, FieldType.isReference]
    first | (intro acts; rw [hr _ acts rfl rfl rfl]) | rw [hr _ _ rfl rfl rfl]
    exact Steps.refl _
  · show Q_cpm2 Z a1 a3 kA vs t0 t1 h0 n0 _ T7.heap _
    rw [e7]
    exact ⟨b5, k5, rfl, N7, own_ext Kc7, V7, O5, g_b5, sz_b5⟩
theorem ef_30_2 (m : MethodId) (x0 : Addr) : entryFrame m #[(.ref x0), (.int (2 : Int32))] 2 = mkF m 0 #[.val (.ref x0), .val (.int (2 : Int32))] [] := by first | (simp [entryFrame, mkF, argsToLocals, Value.category]; done) | rfl
def Q_cpo2 (Z : State) (a1 : Addr) (kA : ClassId) (vs : List Value) (t0 : Addr) (t1 : Addr) (aM : Addr) (h0 : Heap) (n0 : Nat) (v : Option Value) (h : Heap) (L : List Loc) : Prop := ∃ b k2, v = some (.ref b) ∧ Fr n0 L ∧ Ext h0 h ∧ Arv Z h b k2 (.object "java/lang/Object") (2 : Int32) [.ref t0, .ref t1] .null ∧ Ovr Z k2 "java/lang/Object" ∧ n0 ≤ b ∧ h0.size ≤ b
theorem rm_cpo2 (l : Launch) (Z : State) (a0 : Array Value) (hw : ∀ d ∈ tables_1, d.before a0 Z = true) (ws : List Jvm.Cond) (a1 : Addr) (kA : ClassId) (vs : List Value) (t0 : Addr) (t1 : Addr) (aM : Addr) (h0 : Heap) (n0 : Nat) (Z0 : n0 ≤ h0.size) (V_a1 : Arv Z h0 a1 kA (.object "java/lang/Object") (10 : Int32) vs .null) (E_a1 : Exa Z h0 a1 "[Ljava/lang/Object;") (Mr : own_mir Z "[Ljava/lang/Object;" aM) (hv0 : vs.getD 0 .null = .ref t0) (hv1 : vs.getD 1 .null = .ref t1) (I_t0 : Ins Z h0 t0 "java/lang/Object" true) (I_t1 : Ins Z h0 t1 "java/lang/Object" true) :
    MetFree l own_y13 (head1 (Jvm.Cond.code own_y13 jdk_65_method_119_code 2 (some (.array (.object "java/lang/Object"))) :: ws) own_r19) (fun a U => a = #[(.ref a1), (.int (2 : Int32))] ∧ Z.Warmed39 U.vm ∧ U.heap = h0) (fun _ _ _ _ _ => True) (fun _ U o U' => ∃ v L, o = .returned v ∧ Q_cpo2 Z a1 kA vs t0 t1 aM h0 n0 v U'.heap L ∧ FrameEnd U o U' L own_r19.cells own_r19.slots) := by
  refine MetFree.of_bodySF (plainFor_of_name pn_30) hisR ?_
  intro p e s m args below meth c s₁ Bd hml0 hP hK
  obtain ⟨rfl, hZ, hh⟩ := hP
  have hx := Bd.exec
  have hby := Bd.bytes
  have hml : c.maxLocals = 2 := hml0
  have hown : s.vm.findClass "java/util/Arrays" = some m.cls := findClass_of_methodNamed Bd.named
  have hnm := (name_of_methodNamed Bd.named Bd.method).1
  have X0 : Stand p l e own_r19 s m #[(.ref a1), (.int (2 : Int32))] below meth c s₁ [] 0 0 := Stand.of_body Bd
  have e0 : s₁.heap = h0 := by rw [← hh, Bd.state]; rfl
  have N0 := Fr.nil n0
  have pre0 : ∀ t, Steps p.tables e below (s₁.setTop (mkF m 0 #[.val (.ref a1), .val (.int (2 : Int32))] [])) t → Steps p.tables e below (s₁.setTop (entryFrame m #[(.ref a1), (.int (2 : Int32))] 2)) t := fun t k => castTop (ef_30_2 m a1) k
  obtain ⟨T3, X3, e3, st3⟩ := own_gcls X0 hx hZ hown (own_w hw 202 rfl) (own_w hw 203 rfl) (own_w hw 147 rfl) (own_w hw 205 rfl) (own_w hw 204 rfl) (own_w hw 206 rfl) e0 E_a1 Mr (g := (mkF m 3 #[.val (.ref a1), .val (.int (2 : Int32))] [(.ref a1), (.int (2 : Int32)), (.ref a1)])) rfl (by rw [hml]; rfl) rfl (hb hby d30_3) (by decide) (W := 2) (Nat.le_of_eq rfl) (by decide)
  obtain ⟨_, _, ⟨T4, L4, k4, n4⟩, -, X4, ⟨Lc4, hQ4, l4, y4, z4⟩, st4⟩ := Jvm.LawKit.callS X3 hx (y := own_y12) hown (mvT hZ (own_w hw 208 rfl)) (mvT hZ (own_w hw 209 rfl)) (mvT hZ (own_w hw 200 rfl)) (mvT hZ (own_w hw 210 rfl)) (by decide) (backOf (W := 0) (rm_cpm2 l Z a0 hw [] a1 aM kA vs t0 t1 h0 n0 Z0 V_a1 Mr hv0 hv1 I_t0 I_t1) hZ (own_w hw 210 rfl) (own_w hw 200 rfl) (by decide) (by decide)) (g := (mkF m 6 #[.val (.ref a1), .val (.int (2 : Int32))] [(.ref aM), (.int (2 : Int32)), (.ref a1)])) rfl (by rw [hml]; rfl) (argsL := [(.ref a1), (.int (2 : Int32)), (.ref aM)]) (rest := []) (lenOf pd_30_23 rfl) rfl (Nat.le_of_eq rfl) (hb hby d30_6) (fun _ _ => ⟨rfl, e3, (by decide : 0 + 1 ≤ _), (by decide : 0 + 2 ≤ _)⟩)
  dsimp only [Pt.U, Pt.locs, Pt.cells, Pt.slots] at X4 l4 y4 z4 st4 hQ4
  subst l4 y4 z4
  obtain ⟨bC, kC, rfl, N4q, Ex4, Vc, Oc, gc, sc⟩ := hQ4
  have N4 := Fr.app N0 N4q
  obtain ⟨fs, hr, hrun, hended, hW, hsame⟩ := X4.leave (v := some (.ref bC)) (fun h => by rw [Bd.returns] at h; cases h)
  refine ⟨_, _, pre0 _ ?_, hrun, hended, _, _, rfl, ?_, ⟨_, rfl⟩, hW, hsame.mono (by decide) (by decide)⟩
  · show Steps _ _ _ (s₁.setTop (mkF m 0 #[.val (.ref a1), .val (.int (2 : Int32))] [])) _
    refine XS.aloadN X0.here hx rfl (hb hby d30_0) rfl rfl ?_
    refine XS.iloadN X0.here hx rfl (hb hby d30_1) rfl ?_
    refine XS.aloadN X0.here hx rfl (hb hby d30_2) rfl rfl ?_
    show Steps _ _ _ (s₁.setTop (mkF m 3 #[.val (.ref a1), .val (.int (2 : Int32))] [(.ref a1), (.int (2 : Int32)), (.ref a1)])) _
    refine st3 _ ?_
    show Steps _ _ _ (T3.setTop (mkF m 6 #[.val (.ref a1), .val (.int (2 : Int32))] [(.ref aM), (.int (2 : Int32)), (.ref a1)])) _
    refine st4 _ ?_
    show Steps _ _ _ (T4.setTop (mkF m 9 #[.val (.ref a1), .val (.int (2 : Int32))] [(.ref bC)])) _
    jvm_step X4.here [X4.here.top, hx, (hb hby d30_9), X4.method', Bd.returns, Value.isRef, FieldType.isReference]
    first | (intro acts; rw [hr _ acts rfl rfl rfl]) | rw [hr _ _ rfl rfl rfl]
    exact Steps.refl _
  · show Q_cpo2 Z a1 kA vs t0 t1 aM h0 n0 _ T4.heap _
    exact ⟨bC, kC, rfl, N4, Ex4, Vc, Oc, gc, sc⟩
def Q_toA2 (Z : State) (a1 : Addr) (kA : ClassId) (vs : List Value) (t0 : Addr) (t1 : Addr) (aE : Addr) (aM : Addr) (h0 : Heap) (n0 : Nat) (v : Option Value) (h : Heap) (L : List Loc) : Prop := ∃ b k2, v = some (.ref b) ∧ Fr n0 L ∧ Ext h0 h ∧ Arv Z h b k2 (.object "java/lang/Object") (2 : Int32) [.ref t0, .ref t1] .null ∧ Ovr Z k2 "java/lang/Object" ∧ n0 ≤ b ∧ h0.size ≤ b
theorem rm_toA2 (l : Launch) (Z : State) (a0 : Array Value) (hw : ∀ d ∈ tables_1, d.before a0 Z = true) (ws : List Jvm.Cond) (a1 : Addr) (kA : ClassId) (vs : List Value) (t0 : Addr) (t1 : Addr) (aE : Addr) (aM : Addr) (h0 : Heap) (n0 : Nat) (Z0 : n0 ≤ h0.size) (Fe_a1 : Fld Z h0 a1 "java/util/ArrayList" "elementData" "[Ljava/lang/Object;" (.ref aE)) (Fs_a1 : Fld Z h0 a1 "java/util/ArrayList" "size" "I" (.int (2 : Int32))) (V_aE : Arv Z h0 aE kA (.object "java/lang/Object") (10 : Int32) vs .null) (E_aE : Exa Z h0 aE "[Ljava/lang/Object;") (Mr : own_mir Z "[Ljava/lang/Object;" aM) (hv0 : vs.getD 0 .null = .ref t0) (hv1 : vs.getD 1 .null = .ref t1) (I_t0 : Ins Z h0 t0 "java/lang/Object" true) (I_t1 : Ins Z h0 t1 "java/lang/Object" true) :
    MetFree l own_y14 (head1 (Jvm.Cond.code own_y14 jdk_38_method_16_code 1 (some (.array (.object "java/lang/Object"))) :: ws) own_r20) (fun a U => a = #[(.ref a1)] ∧ Z.Warmed39 U.vm ∧ U.heap = h0) (fun _ _ _ _ _ => True) (fun _ U o U' => ∃ v L, o = .returned v ∧ Q_toA2 Z a1 kA vs t0 t1 aE aM h0 n0 v U'.heap L ∧ FrameEnd U o U' L own_r20.cells own_r20.slots) := by
  refine MetFree.of_bodySF (plainFor_of_name pn_29) hisR ?_
  intro p e s m args below meth c s₁ Bd hml0 hP hK
  obtain ⟨rfl, hZ, hh⟩ := hP
  have hx := Bd.exec
  have hby := Bd.bytes
  have hml : c.maxLocals = 1 := hml0
  have hown : s.vm.findClass "java/util/ArrayList" = some m.cls := findClass_of_methodNamed Bd.named
  have hnm := (name_of_methodNamed Bd.named Bd.method).1
  have X0 : Stand p l e own_r20 s m #[(.ref a1)] below meth c s₁ [] 0 0 := Stand.of_body Bd
  have e0 : s₁.heap = h0 := by rw [← hh, Bd.state]; rfl
  have N0 := Fr.nil n0
  have pre0 : ∀ t, Steps p.tables e below (s₁.setTop (mkF m 0 #[.val (.ref a1)] [])) t → Steps p.tables e below (s₁.setTop (entryFrame m #[(.ref a1)] 1)) t := fun t k => castTop (ef_29 m a1) k
  obtain ⟨T2, X2, e2, st2⟩ := getF X0 hx hZ hown (host := "") (Or.inl (own_w hw 48 rfl)) Via.refl e0 Fe_a1 (g := (mkF m 1 #[.val (.ref a1)] [(.ref a1)])) rfl rfl (hb hby d29_1)
  obtain ⟨T3, X3, e3, st3⟩ := getF X2 hx hZ hown (host := "") (Or.inl (own_w hw 81 rfl)) Via.refl e2 Fs_a1 (g := (mkF m 5 #[.val (.ref a1)] [(.ref a1), (.ref aE)])) rfl rfl (hb hby d29_5)
  obtain ⟨_, _, ⟨T4, L4, k4, n4⟩, -, X4, ⟨Lc4, hQ4, l4, y4, z4⟩, st4⟩ := Jvm.LawKit.callS X3 hx (y := own_y13) hown (mvT hZ (own_w hw 198 rfl)) (mvT hZ (own_w hw 199 rfl)) (mvT hZ (own_w hw 200 rfl)) (mvT hZ (own_w hw 201 rfl)) (by decide) (backOf (W := 0) (rm_cpo2 l Z a0 hw [] aE kA vs t0 t1 aM h0 n0 Z0 V_aE E_aE Mr hv0 hv1 I_t0 I_t1) hZ (own_w hw 201 rfl) (own_w hw 200 rfl) (by decide) (by decide)) (g := (mkF m 8 #[.val (.ref a1)] [(.int (2 : Int32)), (.ref aE)])) rfl (by rw [hml]; rfl) (argsL := [(.ref aE), (.int (2 : Int32))]) (rest := []) (lenOf pd_29_21 rfl) rfl (Nat.le_of_eq rfl) (hb hby d29_8) (fun _ _ => ⟨rfl, e3, (by decide : 0 + 1 ≤ _), (by decide : 0 + 2 ≤ _)⟩)
  dsimp only [Pt.U, Pt.locs, Pt.cells, Pt.slots] at X4 l4 y4 z4 st4 hQ4
  subst l4 y4 z4
  obtain ⟨bC, kC, rfl, N4q, ExC, Vc, Oc, gc, sc⟩ := hQ4
  have N4 := Fr.app N0 N4q
  obtain ⟨fs, hr, hrun, hended, hW, hsame⟩ := X4.leave (v := some (.ref bC)) (fun h => by rw [Bd.returns] at h; cases h)
  refine ⟨_, _, pre0 _ ?_, hrun, hended, _, _, rfl, ?_, ⟨_, rfl⟩, hW, hsame.mono (by decide) (by decide)⟩
  · show Steps _ _ _ (s₁.setTop (mkF m 0 #[.val (.ref a1)] [])) _
    refine XS.aloadN X0.here hx rfl (hb hby d29_0) rfl rfl ?_
    show Steps _ _ _ (s₁.setTop (mkF m 1 #[.val (.ref a1)] [(.ref a1)])) _
    refine st2 _ ?_
    show Steps _ _ _ (T2.setTop (mkF m 4 #[.val (.ref a1)] [(.ref aE)])) _
    refine XS.aloadN X2.here hx rfl (hb hby d29_4) rfl rfl ?_
    show Steps _ _ _ (T2.setTop (mkF m 5 #[.val (.ref a1)] [(.ref a1), (.ref aE)])) _
    refine st3 _ ?_
    show Steps _ _ _ (T3.setTop (mkF m 8 #[.val (.ref a1)] [(.int (2 : Int32)), (.ref aE)])) _
    refine st4 _ ?_
    show Steps _ _ _ (T4.setTop (mkF m 11 #[.val (.ref a1)] [(.ref bC)])) _
    jvm_step X4.here [X4.here.top, hx, (hb hby d29_11), X4.method', Bd.returns, Value.isRef, FieldType.isReference]
    first | (intro acts; rw [hr _ acts rfl rfl rfl]) | rw [hr _ _ rfl rfl rfl]
    exact Steps.refl _
  · show Q_toA2 Z a1 kA vs t0 t1 aE aM h0 n0 _ T4.heap _
    exact ⟨bC, kC, rfl, N4, ExC, Vc, Oc, gc, sc⟩
theorem ef_31_3 (m : MethodId) (x0 : Addr) (x2 : Addr) : entryFrame m #[(.ref x0), (.int (3 : Int32)), (.ref x2)] 4 = mkF m 0 #[.val (.ref x0), .val (.int (3 : Int32)), .val (.ref x2), .unset] [] := by first | (simp [entryFrame, mkF, argsToLocals, Value.category]; done) | rfl
def Q_cpm3 (Z : State) (a1 : Addr) (a3 : Addr) (kA : ClassId) (vs : List Value) (t0 : Addr) (t1 : Addr) (t2 : Addr) (h0 : Heap) (n0 : Nat) (v : Option Value) (h : Heap) (L : List Loc) : Prop := ∃ b k2, v = some (.ref b) ∧ Fr n0 L ∧ Ext h0 h ∧ Arv Z h b k2 (.object "java/lang/Object") (3 : Int32) [.ref t0, .ref t1, .ref t2] .null ∧ Ovr Z k2 "java/lang/Object" ∧ n0 ≤ b ∧ h0.size ≤ b
theorem rm_cpm3 (l : Launch) (Z : State) (a0 : Array Value) (hw : ∀ d ∈ tables_1, d.before a0 Z = true) (ws : List Jvm.Cond) (a1 : Addr) (a3 : Addr) (kA : ClassId) (vs : List Value) (t0 : Addr) (t1 : Addr) (t2 : Addr) (h0 : Heap) (n0 : Nat) (Z0 : n0 ≤ h0.size) (V_a1 : Arv Z h0 a1 kA (.object "java/lang/Object") (10 : Int32) vs .null) (Mr : own_mir Z "[Ljava/lang/Object;" a3) (hv0 : vs.getD 0 .null = .ref t0) (hv1 : vs.getD 1 .null = .ref t1) (hv2 : vs.getD 2 .null = .ref t2) (I_t0 : Ins Z h0 t0 "java/lang/Object" true) (I_t1 : Ins Z h0 t1 "java/lang/Object" true) (I_t2 : Ins Z h0 t2 "java/lang/Object" true) :
    MetFree l own_y12 (head1 (Jvm.Cond.code own_y12 jdk_65_method_120_code 4 (some (.array (.object "java/lang/Object"))) :: ws) own_r21) (fun a U => a = #[(.ref a1), (.int (3 : Int32)), (.ref a3)] ∧ Z.Warmed39 U.vm ∧ U.heap = h0) (fun _ _ _ _ _ => True) (fun _ U o U' => ∃ v L, o = .returned v ∧ Q_cpm3 Z a1 a3 kA vs t0 t1 t2 h0 n0 v U'.heap L ∧ FrameEnd U o U' L own_r21.cells own_r21.slots) := by
  refine MetFree.of_bodySF (plainFor_of_name pn_31) hisR ?_
  intro p e s m args below meth c s₁ Bd hml0 hP hK
  obtain ⟨rfl, hZ, hh⟩ := hP
  have hx := Bd.exec
  have hby := Bd.bytes
  have hml : c.maxLocals = 4 := hml0
  have hown : s.vm.findClass "java/util/Arrays" = some m.cls := findClass_of_methodNamed Bd.named
  have hnm := (name_of_methodNamed Bd.named Bd.method).1
  have X0 : Stand p l e own_r21 s m #[(.ref a1), (.int (3 : Int32)), (.ref a3)] below meth c s₁ [] 0 0 := Stand.of_body Bd
  have e0 : s₁.heap = h0 := by rw [← hh, Bd.state]; rfl
  have N0 := Fr.nil n0
  have pre0 : ∀ t, Steps p.tables e below (s₁.setTop (mkF m 0 #[.val (.ref a1), .val (.int (3 : Int32)), .val (.ref a3), .unset] [])) t → Steps p.tables e below (s₁.setTop (entryFrame m #[(.ref a1), (.int (3 : Int32)), (.ref a3)] 4)) t := fun t k => castTop (ef_31_3 m a1 a3) k
  obtain ⟨cl_a1, Ar_a1, -, S_a1, N_a1, -⟩ := id V_a1
  obtain ⟨T4, X4, e4, st4⟩ := own_ldcM X0 hx hZ hown (own_w hw 211 rfl) e0 Mr (g := (mkF m 1 #[.val (.ref a1), .val (.int (3 : Int32)), .val (.ref a3), .unset] [(.ref a3)])) rfl (hb hby d31_1)
  obtain ⟨T5, h5, k5, X5, e5, E5, A5, O5, st5⟩ := newR X4 hx hZ hown (own_w hw 212 rfl) (own_w hw 103 rfl) e4 (g := (mkF m 7 #[.val (.ref a1), .val (.int (3 : Int32)), .val (.ref a3), .unset] [(.int (3 : Int32))])) rfl (hb hby d31_7) rfl (by decide) (cap := 3) (by decide) (by decide) (by decide) (by decide)
  obtain ⟨b5, g5⟩ : ∃ z, z = h0.size := ⟨_, rfl⟩
  rw [← g5] at A5 st5
  have V_b5 := Arv.new A5 (by decide)
  have g_b5 : n0 ≤ b5 := Nat.le_trans Z0 (Nat.le_of_eq g5.symm)
  have sz_b5 : h0.size ≤ b5 := (Nat.le_trans (Keep.refl h0 []).1 (Nat.le_of_eq g5.symm))
  have K5 : Keep h0 h5 [] := (Keep.refl h0 []).ext E5
  obtain ⟨_, _, ⟨T6, L6, k6, n6⟩, -, X6, ⟨Lc6, hQ6, l6, y6, z6⟩, st6⟩ := Jvm.LawKit.callS X5 hx (y := own_y28) hown (mvT hZ (own_w hw 213 rfl)) (mvT hZ (own_w hw 214 rfl)) (mvT hZ (own_w hw 100 rfl)) (mvT hZ (own_w hw 215 rfl)) (by decide) (backOf (W := 4) (rm_min l Z a0 hw [] (10 : Int32) (3 : Int32)  h5 n0 (Nat.le_trans Z0 E5.1) (by decide)) hZ (own_w hw 215 rfl) (own_w hw 100 rfl) (by decide) (by decide)) (g := (mkF m 32 #[.val (.ref a1), .val (.int (3 : Int32)), .val (.ref a3), .val (.ref b5)] [(.int (3 : Int32)), (.int (10 : Int32)), (.int (0 : Int32)), (.ref b5), (.int (0 : Int32)), (.ref a1)])) rfl (by rw [hml]; rfl) (argsL := [(.int (10 : Int32)), (.int (3 : Int32))]) (rest := [(.int (0 : Int32)), (.ref b5), (.int (0 : Int32)), (.ref a1)]) (lenOf pd_31_11 rfl) rfl (Nat.le_of_eq rfl) (hb hby d31_32) (fun _ _ => ⟨rfl, e5, (by decide : 1 + 0 ≤ _), (by decide : 3 + 0 ≤ _)⟩)
  dsimp only [Pt.U, Pt.locs, Pt.cells, Pt.slots] at X6 l6 y6 z6 st6 hQ6
  subst l6 y6 z6
  obtain ⟨rfl, N6q, K6⟩ := hQ6
  have N6 := Fr.app N0 N6q
  have Vd7 : Arv Z h5 b5 k5 (.object "java/lang/Object") (3 : Int32) (List.replicate 3 .null) .null := (V_b5).pad (pad_rep [] .null 3)
  obtain ⟨T7, h7, L7, X7, e7, N7, K7, V7, st7⟩ := cpA X6 hx hZ hown (own_w hw 216 rfl) (own_w hw 219 rfl) (own_w hw 217 rfl) (own_w hw 218 rfl) K6 (V_a1.ext E5) Vd7 (us := [.ref t0, .ref t1, .ref t2]) (Or.inr ⟨rfl, rfl, ⟨own_sto Vd7 O5 (I_t0.ext E5), own_sto Vd7 O5 (I_t1.ext E5), own_sto Vd7 O5 (I_t2.ext E5), trivial⟩⟩) (sp := 0) (dp := 0) (nn := (3 : Int32)) (by decide) (by decide) (by decide) (by decide) (by decide) (by show _ = [vs.getD 0 .null, vs.getD 1 .null, vs.getD 2 .null]; rw [hv0, hv1, hv2]) (by decide) N6 g_b5 (g := (mkF m 35 #[.val (.ref a1), .val (.int (3 : Int32)), .val (.ref a3), .val (.ref b5)] [(.int (3 : Int32)), (.int (0 : Int32)), (.ref b5), (.int (0 : Int32)), (.ref a1)])) rfl (by rw [hml]; rfl) rfl (hb hby d31_35) (by decide) (W := 0) (Nat.le_of_eq rfl) (by decide)
  have Kc7 : Keep h0 h7 [] := K5.trans K7 (allS (Or.inr sz_b5) all0)
  obtain ⟨fs, hr, hrun, hended, hW, hsame⟩ := X7.leave (v := some (.ref b5)) (fun h => by rw [Bd.returns] at h; cases h)
  refine ⟨_, _, pre0 _ ?_, hrun, hended, _, _, rfl, ?_, ⟨_, rfl⟩, hW, hsame.mono (by decide) (by decide)⟩
  · show Steps _ _ _ (s₁.setTop (mkF m 0 #[.val (.ref a1), .val (.int (3 : Int32)), .val (.ref a3), .unset] [])) _
    refine XS.aloadN X0.here hx rfl (hb hby d31_0) rfl rfl ?_
    show Steps _ _ _ (s₁.setTop (mkF m 1 #[.val (.ref a1), .val (.int (3 : Int32)), .val (.ref a3), .unset] [(.ref a3)])) _
    refine st4 _ ?_
    show Steps _ _ _ (T4.setTop (mkF m 3 #[.val (.ref a1), .val (.int (3 : Int32)), .val (.ref a3), .unset] [(.ref a3), (.ref a3)])) _
    refine Jvm.RoadKit.acmp (g := (mkF m 3 #[.val (.ref a1), .val (.int (3 : Int32)), .val (.ref a3), .unset] [(.ref a3), (.ref a3)])) X4 hx rfl rfl rfl (pc0 := 3) (pc' := 6) (same := true) rfl (hb hby d31_3) rfl (decide_eq_true rfl) (by decide) (by decide) ?_
    show Steps _ _ _ (T4.setTop (mkF m 6 #[.val (.ref a1), .val (.int (3 : Int32)), .val (.ref a3), .unset] [])) _
    refine XS.iloadN X4.here hx rfl (hb hby d31_6) rfl ?_
    show Steps _ _ _ (T4.setTop (mkF m 7 #[.val (.ref a1), .val (.int (3 : Int32)), .val (.ref a3), .unset] [(.int (3 : Int32))])) _
    refine st5 _ ?_
    show Steps _ _ _ (T5.setTop (mkF m 10 #[.val (.ref a1), .val (.int (3 : Int32)), .val (.ref a3), .unset] [(.ref b5)])) _
    refine XS.goto X5.here hx rfl (pc0 := 10) (pc' := 24) rfl (hb hby d31_10) (by decide) (by decide) ?_
    refine XS.astoreN X5.here hx rfl (hb hby d31_24) rfl rfl (l' := #[.val (.ref a1), .val (.int (3 : Int32)), .val (.ref a3), .val (.ref b5)]) rfl ?_
    refine XS.aloadN X5.here hx rfl (hb hby d31_25) rfl rfl ?_
    refine XS.iconst X5.here hx rfl (hb hby d31_26) ?_
    show Steps _ _ _ (T5.setTop (mkF m 27 #[.val (.ref a1), .val (.int (3 : Int32)), .val (.ref a3), .val (.ref b5)] [(.int (0 : Int32)), (.ref a1)])) _
    refine XS.aloadN X5.here hx rfl (hb hby d31_27) rfl rfl ?_
    refine XS.iconst X5.here hx rfl (hb hby d31_28) ?_
    refine XS.aloadN X5.here hx rfl (hb hby d31_29) rfl rfl ?_
    show Steps _ _ _ (T5.setTop (mkF m 30 #[.val (.ref a1), .val (.int (3 : Int32)), .val (.ref a3), .val (.ref b5)] [(.ref a1), (.int (0 : Int32)), (.ref b5), (.int (0 : Int32)), (.ref a1)])) _
    refine X5.arraylength hx (by rw [e5]; exact (Ar_a1.ext E5).1) (State.isArrayOf_alike hZ.alike Ar_a1.2.1) (g := (mkF m 30 #[.val (.ref a1), .val (.int (3 : Int32)), .val (.ref a3), .val (.ref b5)] [(.ref a1), (.int (0 : Int32)), (.ref b5), (.int (0 : Int32)), (.ref a1)])) rfl rfl (hb hby d31_30) _ ?_
    rw [len_of S_a1 N_a1]
    show Steps _ _ _ (T5.setTop (mkF m 31 #[.val (.ref a1), .val (.int (3 : Int32)), .val (.ref a3), .val (.ref b5)] [(.int (10 : Int32)), (.int (0 : Int32)), (.ref b5), (.int (0 : Int32)), (.ref a1)])) _
    refine XS.iloadN X5.here hx rfl (hb hby d31_31) rfl ?_
    show Steps _ _ _ (T5.setTop (mkF m 32 #[.val (.ref a1), .val (.int (3 : Int32)), .val (.ref a3), .val (.ref b5)] [(.int (3 : Int32)), (.int (10 : Int32)), (.int (0 : Int32)), (.ref b5), (.int (0 : Int32)), (.ref a1)])) _
    refine st6 _ ?_
    show Steps _ _ _ (T6.setTop (mkF m 35 #[.val (.ref a1), .val (.int (3 : Int32)), .val (.ref a3), .val (.ref b5)] [(.int (3 : Int32)), (.int (0 : Int32)), (.ref b5), (.int (0 : Int32)), (.ref a1)])) _
    refine st7 _ ?_
    show Steps _ _ _ (T7.setTop (mkF m 38 #[.val (.ref a1), .val (.int (3 : Int32)), .val (.ref a3), .val (.ref b5)] [])) _
    refine XS.aloadN X7.here hx rfl (hb hby d31_38) rfl rfl ?_
    show Steps _ _ _ (T7.setTop (mkF m 39 #[.val (.ref a1), .val (.int (3 : Int32)), .val (.ref a3), .val (.ref b5)] [(.ref b5)])) _
    jvm_step X7.here [X7.here.top, hx, (hb hby d31_39), X7.method', Bd.returns, Value.isRef, FieldType.isReference]
    first | (intro acts; rw [hr _ acts rfl rfl rfl]) | rw [hr _ _ rfl rfl rfl]
    exact Steps.refl _
  · show Q_cpm3 Z a1 a3 kA vs t0 t1 t2 h0 n0 _ T7.heap _
    rw [e7]
    exact ⟨b5, k5, rfl, N7, own_ext Kc7, V7, O5, g_b5, sz_b5⟩
theorem ef_30_3 (m : MethodId) (x0 : Addr) : entryFrame m #[(.ref x0), (.int (3 : Int32))] 2 = mkF m 0 #[.val (.ref x0), .val (.int (3 : Int32))] [] := by first | (simp [entryFrame, mkF, argsToLocals, Value.category]; done) | rfl
def Q_cpo3 (Z : State) (a1 : Addr) (kA : ClassId) (vs : List Value) (t0 : Addr) (t1 : Addr) (t2 : Addr) (aM : Addr) (h0 : Heap) (n0 : Nat) (v : Option Value) (h : Heap) (L : List Loc) : Prop := ∃ b k2, v = some (.ref b) ∧ Fr n0 L ∧ Ext h0 h ∧ Arv Z h b k2 (.object "java/lang/Object") (3 : Int32) [.ref t0, .ref t1, .ref t2] .null ∧ Ovr Z k2 "java/lang/Object" ∧ n0 ≤ b ∧ h0.size ≤ b
theorem rm_cpo3 (l : Launch) (Z : State) (a0 : Array Value) (hw : ∀ d ∈ tables_1, d.before a0 Z = true) (ws : List Jvm.Cond) (a1 : Addr) (kA : ClassId) (vs : List Value) (t0 : Addr) (t1 : Addr) (t2 : Addr) (aM : Addr) (h0 : Heap) (n0 : Nat) (Z0 : n0 ≤ h0.size) (V_a1 : Arv Z h0 a1 kA (.object "java/lang/Object") (10 : Int32) vs .null) (E_a1 : Exa Z h0 a1 "[Ljava/lang/Object;") (Mr : own_mir Z "[Ljava/lang/Object;" aM) (hv0 : vs.getD 0 .null = .ref t0) (hv1 : vs.getD 1 .null = .ref t1) (hv2 : vs.getD 2 .null = .ref t2) (I_t0 : Ins Z h0 t0 "java/lang/Object" true) (I_t1 : Ins Z h0 t1 "java/lang/Object" true) (I_t2 : Ins Z h0 t2 "java/lang/Object" true) :
    MetFree l own_y13 (head1 (Jvm.Cond.code own_y13 jdk_65_method_119_code 2 (some (.array (.object "java/lang/Object"))) :: ws) own_r22) (fun a U => a = #[(.ref a1), (.int (3 : Int32))] ∧ Z.Warmed39 U.vm ∧ U.heap = h0) (fun _ _ _ _ _ => True) (fun _ U o U' => ∃ v L, o = .returned v ∧ Q_cpo3 Z a1 kA vs t0 t1 t2 aM h0 n0 v U'.heap L ∧ FrameEnd U o U' L own_r22.cells own_r22.slots) := by
  refine MetFree.of_bodySF (plainFor_of_name pn_30) hisR ?_
  intro p e s m args below meth c s₁ Bd hml0 hP hK
  obtain ⟨rfl, hZ, hh⟩ := hP
  have hx := Bd.exec
  have hby := Bd.bytes
  have hml : c.maxLocals = 2 := hml0
  have hown : s.vm.findClass "java/util/Arrays" = some m.cls := findClass_of_methodNamed Bd.named
  have hnm := (name_of_methodNamed Bd.named Bd.method).1
  have X0 : Stand p l e own_r22 s m #[(.ref a1), (.int (3 : Int32))] below meth c s₁ [] 0 0 := Stand.of_body Bd
  have e0 : s₁.heap = h0 := by rw [← hh, Bd.state]; rfl
  have N0 := Fr.nil n0
  have pre0 : ∀ t, Steps p.tables e below (s₁.setTop (mkF m 0 #[.val (.ref a1), .val (.int (3 : Int32))] [])) t → Steps p.tables e below (s₁.setTop (entryFrame m #[(.ref a1), (.int (3 : Int32))] 2)) t := fun t k => castTop (ef_30_3 m a1) k
  obtain ⟨T3, X3, e3, st3⟩ := own_gcls X0 hx hZ hown (own_w hw 202 rfl) (own_w hw 203 rfl) (own_w hw 147 rfl) (own_w hw 205 rfl) (own_w hw 204 rfl) (own_w hw 206 rfl) e0 E_a1 Mr (g := (mkF m 3 #[.val (.ref a1), .val (.int (3 : Int32))] [(.ref a1), (.int (3 : Int32)), (.ref a1)])) rfl (by rw [hml]; rfl) rfl (hb hby d30_3) (by decide) (W := 2) (Nat.le_of_eq rfl) (by decide)
  obtain ⟨_, _, ⟨T4, L4, k4, n4⟩, -, X4, ⟨Lc4, hQ4, l4, y4, z4⟩, st4⟩ := Jvm.LawKit.callS X3 hx (y := own_y12) hown (mvT hZ (own_w hw 208 rfl)) (mvT hZ (own_w hw 209 rfl)) (mvT hZ (own_w hw 200 rfl)) (mvT hZ (own_w hw 210 rfl)) (by decide) (backOf (W := 0) (rm_cpm3 l Z a0 hw [] a1 aM kA vs t0 t1 t2 h0 n0 Z0 V_a1 Mr hv0 hv1 hv2 I_t0 I_t1 I_t2) hZ (own_w hw 210 rfl) (own_w hw 200 rfl) (by decide) (by decide)) (g := (mkF m 6 #[.val (.ref a1), .val (.int (3 : Int32))] [(.ref aM), (.int (3 : Int32)), (.ref a1)])) rfl (by rw [hml]; rfl) (argsL := [(.ref a1), (.int (3 : Int32)), (.ref aM)]) (rest := []) (lenOf pd_30_23 rfl) rfl (Nat.le_of_eq rfl) (hb hby d30_6) (fun _ _ => ⟨rfl, e3, (by decide : 0 + 1 ≤ _), (by decide : 0 + 3 ≤ _)⟩)
  dsimp only [Pt.U, Pt.locs, Pt.cells, Pt.slots] at X4 l4 y4 z4 st4 hQ4
  subst l4 y4 z4
  obtain ⟨bC, kC, rfl, N4q, Ex4, Vc, Oc, gc, sc⟩ := hQ4
  have N4 := Fr.app N0 N4q
  obtain ⟨fs, hr, hrun, hended, hW, hsame⟩ := X4.leave (v := some (.ref bC)) (fun h => by rw [Bd.returns] at h; cases h)
  refine ⟨_, _, pre0 _ ?_, hrun, hended, _, _, rfl, ?_, ⟨_, rfl⟩, hW, hsame.mono (by decide) (by decide)⟩
  · show Steps _ _ _ (s₁.setTop (mkF m 0 #[.val (.ref a1), .val (.int (3 : Int32))] [])) _
    refine XS.aloadN X0.here hx rfl (hb hby d30_0) rfl rfl ?_
    refine XS.iloadN X0.here hx rfl (hb hby d30_1) rfl ?_
    refine XS.aloadN X0.here hx rfl (hb hby d30_2) rfl rfl ?_
    show Steps _ _ _ (s₁.setTop (mkF m 3 #[.val (.ref a1), .val (.int (3 : Int32))] [(.ref a1), (.int (3 : Int32)), (.ref a1)])) _
    refine st3 _ ?_
    show Steps _ _ _ (T3.setTop (mkF m 6 #[.val (.ref a1), .val (.int (3 : Int32))] [(.ref aM), (.int (3 : Int32)), (.ref a1)])) _
    refine st4 _ ?_
    show Steps _ _ _ (T4.setTop (mkF m 9 #[.val (.ref a1), .val (.int (3 : Int32))] [(.ref bC)])) _
    jvm_step X4.here [X4.here.top, hx, (hb hby d30_9), X4.method', Bd.returns, Value.isRef, FieldType.isReference]
    first | (intro acts; rw [hr _ acts rfl rfl rfl]) | rw [hr _ _ rfl rfl rfl]
    exact Steps.refl _
  · show Q_cpo3 Z a1 kA vs t0 t1 t2 aM h0 n0 _ T4.heap _
    exact ⟨bC, kC, rfl, N4, Ex4, Vc, Oc, gc, sc⟩
def Q_toA3 (Z : State) (a1 : Addr) (kA : ClassId) (vs : List Value) (t0 : Addr) (t1 : Addr) (t2 : Addr) (aE : Addr) (aM : Addr) (h0 : Heap) (n0 : Nat) (v : Option Value) (h : Heap) (L : List Loc) : Prop := ∃ b k2, v = some (.ref b) ∧ Fr n0 L ∧ Ext h0 h ∧ Arv Z h b k2 (.object "java/lang/Object") (3 : Int32) [.ref t0, .ref t1, .ref t2] .null ∧ Ovr Z k2 "java/lang/Object" ∧ n0 ≤ b ∧ h0.size ≤ b
theorem rm_toA3 (l : Launch) (Z : State) (a0 : Array Value) (hw : ∀ d ∈ tables_1, d.before a0 Z = true) (ws : List Jvm.Cond) (a1 : Addr) (kA : ClassId) (vs : List Value) (t0 : Addr) (t1 : Addr) (t2 : Addr) (aE : Addr) (aM : Addr) (h0 : Heap) (n0 : Nat) (Z0 : n0 ≤ h0.size) (Fe_a1 : Fld Z h0 a1 "java/util/ArrayList" "elementData" "[Ljava/lang/Object;" (.ref aE)) (Fs_a1 : Fld Z h0 a1 "java/util/ArrayList" "size" "I" (.int (3 : Int32))) (V_aE : Arv Z h0 aE kA (.object "java/lang/Object") (10 : Int32) vs .null) (E_aE : Exa Z h0 aE "[Ljava/lang/Object;") (Mr : own_mir Z "[Ljava/lang/Object;" aM) (hv0 : vs.getD 0 .null = .ref t0) (hv1 : vs.getD 1 .null = .ref t1) (hv2 : vs.getD 2 .null = .ref t2) (I_t0 : Ins Z h0 t0 "java/lang/Object" true) (I_t1 : Ins Z h0 t1 "java/lang/Object" true) (I_t2 : Ins Z h0 t2 "java/lang/Object" true) :
    MetFree l own_y14 (head1 (Jvm.Cond.code own_y14 jdk_38_method_16_code 1 (some (.array (.object "java/lang/Object"))) :: ws) own_r23) (fun a U => a = #[(.ref a1)] ∧ Z.Warmed39 U.vm ∧ U.heap = h0) (fun _ _ _ _ _ => True) (fun _ U o U' => ∃ v L, o = .returned v ∧ Q_toA3 Z a1 kA vs t0 t1 t2 aE aM h0 n0 v U'.heap L ∧ FrameEnd U o U' L own_r23.cells own_r23.slots) := by
  refine MetFree.of_bodySF (plainFor_of_name pn_29) hisR ?_
  intro p e s m args below meth c s₁ Bd hml0 hP hK
  obtain ⟨rfl, hZ, hh⟩ := hP
  have hx := Bd.exec
  have hby := Bd.bytes
  have hml : c.maxLocals = 1 := hml0
  have hown : s.vm.findClass "java/util/ArrayList" = some m.cls := findClass_of_methodNamed Bd.named
  have hnm := (name_of_methodNamed Bd.named Bd.method).1
  have X0 : Stand p l e own_r23 s m #[(.ref a1)] below meth c s₁ [] 0 0 := Stand.of_body Bd
  have e0 : s₁.heap = h0 := by rw [← hh, Bd.state]; rfl
  have N0 := Fr.nil n0
  have pre0 : ∀ t, Steps p.tables e below (s₁.setTop (mkF m 0 #[.val (.ref a1)] [])) t → Steps p.tables e below (s₁.setTop (entryFrame m #[(.ref a1)] 1)) t := fun t k => castTop (ef_29 m a1) k
  obtain ⟨T2, X2, e2, st2⟩ := getF X0 hx hZ hown (host := "") (Or.inl (own_w hw 48 rfl)) Via.refl e0 Fe_a1 (g := (mkF m 1 #[.val (.ref a1)] [(.ref a1)])) rfl rfl (hb hby d29_1)
  obtain ⟨T3, X3, e3, st3⟩ := getF X2 hx hZ hown (host := "") (Or.inl (own_w hw 81 rfl)) Via.refl e2 Fs_a1 (g := (mkF m 5 #[.val (.ref a1)] [(.ref a1), (.ref aE)])) rfl rfl (hb hby d29_5)
  obtain ⟨_, _, ⟨T4, L4, k4, n4⟩, -, X4, ⟨Lc4, hQ4, l4, y4, z4⟩, st4⟩ := Jvm.LawKit.callS X3 hx (y := own_y13) hown (mvT hZ (own_w hw 198 rfl)) (mvT hZ (own_w hw 199 rfl)) (mvT hZ (own_w hw 200 rfl)) (mvT hZ (own_w hw 201 rfl)) (by decide) (backOf (W := 0) (rm_cpo3 l Z a0 hw [] aE kA vs t0 t1 t2 aM h0 n0 Z0 V_aE E_aE Mr hv0 hv1 hv2 I_t0 I_t1 I_t2) hZ (own_w hw 201 rfl) (own_w hw 200 rfl) (by decide) (by decide)) (g := (mkF m 8 #[.val (.ref a1)] [(.int (3 : Int32)), (.ref aE)])) rfl (by rw [hml]; rfl) (argsL := [(.ref aE), (.int (3 : Int32))]) (rest := []) (lenOf pd_29_21 rfl) rfl (Nat.le_of_eq rfl) (hb hby d29_8) (fun _ _ => ⟨rfl, e3, (by decide : 0 + 1 ≤ _), (by decide : 0 + 3 ≤ _)⟩)
  dsimp only [Pt.U, Pt.locs, Pt.cells, Pt.slots] at X4 l4 y4 z4 st4 hQ4
  subst l4 y4 z4
  obtain ⟨bC, kC, rfl, N4q, ExC, Vc, Oc, gc, sc⟩ := hQ4
  have N4 := Fr.app N0 N4q
  obtain ⟨fs, hr, hrun, hended, hW, hsame⟩ := X4.leave (v := some (.ref bC)) (fun h => by rw [Bd.returns] at h; cases h)
  refine ⟨_, _, pre0 _ ?_, hrun, hended, _, _, rfl, ?_, ⟨_, rfl⟩, hW, hsame.mono (by decide) (by decide)⟩
  · show Steps _ _ _ (s₁.setTop (mkF m 0 #[.val (.ref a1)] [])) _
    refine XS.aloadN X0.here hx rfl (hb hby d29_0) rfl rfl ?_
    show Steps _ _ _ (s₁.setTop (mkF m 1 #[.val (.ref a1)] [(.ref a1)])) _
    refine st2 _ ?_
    show Steps _ _ _ (T2.setTop (mkF m 4 #[.val (.ref a1)] [(.ref aE)])) _
    refine XS.aloadN X2.here hx rfl (hb hby d29_4) rfl rfl ?_
    show Steps _ _ _ (T2.setTop (mkF m 5 #[.val (.ref a1)] [(.ref a1), (.ref aE)])) _
    refine st3 _ ?_
    show Steps _ _ _ (T3.setTop (mkF m 8 #[.val (.ref a1)] [(.int (3 : Int32)), (.ref aE)])) _
    refine st4 _ ?_
    show Steps _ _ _ (T4.setTop (mkF m 11 #[.val (.ref a1)] [(.ref bC)])) _
    jvm_step X4.here [X4.here.top, hx, (hb hby d29_11), X4.method', Bd.returns, Value.isRef, FieldType.isReference]
    first | (intro acts; rw [hr _ acts rfl rfl rfl]) | rw [hr _ _ rfl rfl rfl]
    exact Steps.refl _
  · show Q_toA3 Z a1 kA vs t0 t1 t2 aE aM h0 n0 _ T4.heap _
    exact ⟨bC, kC, rfl, N4, ExC, Vc, Oc, gc, sc⟩
theorem own_at {c : Cell} {j : Int32} {k : Nat} {v : Option Value} (e : j.toNatClampNeg = k) (h : c.slots[k]? = v) : c.slots[j.toNatClampNeg]? = v := by rw [e]; exact h
theorem own_arr {Z : State} {h : Heap} {b : Addr} {k : ClassId} {ty : FieldType} {z : Int32} {vs : List Value} {d : Value} (V : Arv Z h b k ty z vs d) : ∃ c, Arr Z h b c ty ∧ c.slots.size = z.toNatClampNeg := by
  obtain ⟨c, A, -, S, -⟩ := V; exact ⟨c, A, S⟩
theorem d42_0 : decode jdk_56_method_4_code 0 = .ok (.aload_n 0, 1) := by decide +kernel
theorem d42_1 : decode jdk_56_method_4_code 1 = .ok (.arraylength, 1) := by decide +kernel
theorem d42_2 : decode jdk_56_method_4_code 2 = .ok (.anewarray 2, 3) := by decide +kernel
theorem d42_5 : decode jdk_56_method_4_code 5 = .ok (.astore_n 1, 1) := by decide +kernel
theorem d42_6 : decode jdk_56_method_4_code 6 = .ok (.iconst 0, 1) := by decide +kernel
theorem d42_7 : decode jdk_56_method_4_code 7 = .ok (.istore_n 2, 1) := by decide +kernel
theorem d42_8 : decode jdk_56_method_4_code 8 = .ok (.iload_n 2, 1) := by decide +kernel
theorem d42_9 : decode jdk_56_method_4_code 9 = .ok (.aload_n 0, 1) := by decide +kernel
theorem d42_10 : decode jdk_56_method_4_code 10 = .ok (.arraylength, 1) := by decide +kernel
theorem d42_11 : decode jdk_56_method_4_code 11 = .ok (.if_icmp .ge 18, 3) := by decide +kernel
theorem d42_14 : decode jdk_56_method_4_code 14 = .ok (.aload_n 1, 1) := by decide +kernel
theorem d42_15 : decode jdk_56_method_4_code 15 = .ok (.iload_n 2, 1) := by decide +kernel
theorem d42_16 : decode jdk_56_method_4_code 16 = .ok (.aload_n 0, 1) := by decide +kernel
theorem d42_17 : decode jdk_56_method_4_code 17 = .ok (.iload_n 2, 1) := by decide +kernel
theorem d42_18 : decode jdk_56_method_4_code 18 = .ok (.aaload, 1) := by decide +kernel
theorem d42_19 : decode jdk_56_method_4_code 19 = .ok (.invokestatic 37, 3) := by decide +kernel
theorem d42_22 : decode jdk_56_method_4_code 22 = .ok (.aastore, 1) := by decide +kernel
theorem d42_23 : decode jdk_56_method_4_code 23 = .ok (.iinc 2 1, 3) := by decide +kernel
theorem d42_26 : decode jdk_56_method_4_code 26 = .ok (.goto (-18), 3) := by decide +kernel
theorem d42_29 : decode jdk_56_method_4_code 29 = .ok (.new 12, 3) := by decide +kernel
theorem d42_32 : decode jdk_56_method_4_code 32 = .ok (.dup, 1) := by decide +kernel
theorem d42_33 : decode jdk_56_method_4_code 33 = .ok (.aload_n 1, 1) := by decide +kernel
theorem d42_34 : decode jdk_56_method_4_code 34 = .ok (.iconst 0, 1) := by decide +kernel
theorem d42_35 : decode jdk_56_method_4_code 35 = .ok (.invokespecial 43, 3) := by decide +kernel
theorem d42_38 : decode jdk_56_method_4_code 38 = .ok (.areturn, 1) := by decide +kernel
theorem pn_42 : plainName "java/util/ImmutableCollections" = true := by first | (simp [plainName, overriddenIn]; done) | decide +kernel
theorem pd_42_27 : parseMethodDescriptor "(Ljava/lang/Object;)Ljava/lang/Object;" = some ⟨[(.object "java/lang/Object")], some (.object "java/lang/Object")⟩ := by decide +kernel
theorem pd_42_30 : parseMethodDescriptor "([Ljava/lang/Object;Z)V" = some ⟨[(.array (.object "java/lang/Object")), .boolean], none⟩ := by decide +kernel
theorem ef_42 (m : MethodId) (x0 : Addr) : entryFrame m #[(.ref x0)] 3 = mkF m 0 #[.val (.ref x0), .unset, .unset] [] := by first | (simp [entryFrame, mkF, argsToLocals, Value.category]; done) | rfl
def Q_lfa (Z : State) (a1 : Addr) (kS : ClassId) (t0 : Addr) (t1 : Addr) (t2 : Addr) (h0 : Heap) (n0 : Nat) (v : Option Value) (h : Heap) (L : List Loc) : Prop := ∃ b eA, v = some (.ref b) ∧ Fr n0 L ∧ Ext h0 h ∧ Exa Z h b "java/util/ImmutableCollections$ListN" ∧ Fld Z h b "java/util/ImmutableCollections$ListN" "elements" "[Ljava/lang/Object;" (.ref eA) ∧ ∃ cE, Arr Z h eA cE (.object "java/lang/Object") ∧ cE.slots.size = (3 : Int32).toNatClampNeg
theorem rm_lfa (l : Launch) (Z : State) (a0 : Array Value) (hw : ∀ d ∈ tables_1, d.before a0 Z = true) (ws : List Jvm.Cond) (a1 : Addr) (kS : ClassId) (t0 : Addr) (t1 : Addr) (t2 : Addr) (h0 : Heap) (n0 : Nat) (Z0 : n0 ≤ h0.size) (V_a1 : Arv Z h0 a1 kS (.object "java/lang/Object") (3 : Int32) [.ref t0, .ref t1, .ref t2] .null) (I_t0 : Ins Z h0 t0 "java/lang/Object" true) (I_t1 : Ins Z h0 t1 "java/lang/Object" true) (I_t2 : Ins Z h0 t2 "java/lang/Object" true) :
    MetFree l own_y48 (head1 (Jvm.Cond.code own_y48 jdk_56_method_4_code 3 (some (.object "java/util/List")) :: ws) own_r24) (fun a U => a = #[(.ref a1)] ∧ Z.Warmed39 U.vm ∧ U.heap = h0) (fun _ _ _ _ _ => True) (fun _ U o U' => ∃ v L, o = .returned v ∧ Q_lfa Z a1 kS t0 t1 t2 h0 n0 v U'.heap L ∧ FrameEnd U o U' L own_r24.cells own_r24.slots) := by
  refine MetFree.of_bodySF (plainFor_of_name pn_42) hisR ?_
  intro p e s m args below meth c s₁ Bd hml0 hP hK
  obtain ⟨rfl, hZ, hh⟩ := hP
  have hx := Bd.exec
  have hby := Bd.bytes
  have hml : c.maxLocals = 3 := hml0
  have hown : s.vm.findClass "java/util/ImmutableCollections" = some m.cls := findClass_of_methodNamed Bd.named
  have hnm := (name_of_methodNamed Bd.named Bd.method).1
  have X0 : Stand p l e own_r24 s m #[(.ref a1)] below meth c s₁ [] 0 0 := Stand.of_body Bd
  have e0 : s₁.heap = h0 := by rw [← hh, Bd.state]; rfl
  have N0 := Fr.nil n0
  have pre0 : ∀ t, Steps p.tables e below (s₁.setTop (mkF m 0 #[.val (.ref a1), .unset, .unset] [])) t → Steps p.tables e below (s₁.setTop (entryFrame m #[(.ref a1)] 3)) t := fun t k => castTop (ef_42 m a1) k
  obtain ⟨cl_a1_2, Ar_a1_2, -, S_a1_2, N_a1_2, H_a1_2, -⟩ := id V_a1
  obtain ⟨T3, h3, k3, X3, e3, E3, A3, O3, st3⟩ := newR X0 hx hZ hown (own_w hw 319 rfl) (own_w hw 103 rfl) e0 (g := (mkF m 2 #[.val (.ref a1), .unset, .unset] [(.int (3 : Int32))])) rfl (hb hby d42_2) rfl (by decide) (cap := 3) (by decide) (by decide) (by decide) (by decide)
  obtain ⟨b3, g3⟩ : ∃ z, z = h0.size := ⟨_, rfl⟩
  rw [← g3] at A3 st3
  have V_b3 := Arv.new A3 (by decide)
  have g_b3 : n0 ≤ b3 := Nat.le_trans Z0 (Nat.le_of_eq g3.symm)
  have sz_b3 : h0.size ≤ b3 := (Nat.le_trans (Keep.refl h0 []).1 (Nat.le_of_eq g3.symm))
  have K3 : Keep h0 h3 [] := (Keep.refl h0 []).ext E3
  obtain ⟨cl_a1_4, Ar_a1_4, -, S_a1_4, N_a1_4, H_a1_4, -⟩ := id (V_a1.ext E3)
  obtain ⟨_, _, ⟨T5, L5, k5, n5⟩, -, X5, ⟨Lc5, hQ5, l5, y5, z5⟩, st5⟩ := Jvm.LawKit.callS X3 hx (y := own_y17) hown (mvT hZ (own_w hw 320 rfl)) (mvT hZ (own_w hw 245 rfl)) (mvT hZ (own_w hw 134 rfl)) (mvT hZ (own_w hw 246 rfl)) (by decide) (backOf (W := 2) (rm_rnn l Z a0 hw [] t0  h3 n0 (Nat.le_trans Z0 E3.1)) hZ (own_w hw 246 rfl) (own_w hw 134 rfl) (by decide) (by decide)) (g := (mkF m 19 #[.val (.ref a1), .val (.ref b3), .val (.int (0 : Int32))] [(.ref t0), (.int (0 : Int32)), (.ref b3)])) rfl (by rw [hml]; rfl) (argsL := [(.ref t0)]) (rest := [(.int (0 : Int32)), (.ref b3)]) (lenOf pd_42_27 rfl) rfl (Nat.le_of_eq rfl) (hb hby d42_19) (fun _ _ => ⟨rfl, e3, (by decide : 1 + 0 ≤ _), (by decide : 3 + 0 ≤ _)⟩)
  dsimp only [Pt.U, Pt.locs, Pt.cells, Pt.slots] at X5 l5 y5 z5 st5 hQ5
  subst l5 y5 z5
  obtain ⟨rfl, N5q, K5⟩ := hQ5
  have N5 := Fr.app N0 N5q
  have hne1 : a1 ≠ b3 := Nat.ne_of_lt (Nat.lt_of_lt_of_le V_a1.lt sz_b3)
  obtain ⟨clB, ArB, qB, SB, NB, HB, GB⟩ := (V_b3).pad (pad_rep [] .null 3)
  have hin22 : ¬ ((0 : Int32) < 0 ∨ clB.slots.size ≤ ((0 : Int32)).toNatClampNeg) := inb_of SB ⟨by decide, by decide⟩
  have StB : Sto Z h3 b3 (.ref t0) := Sto.ofV ArB qB O3 (own_insK I_t0 K3)
  obtain ⟨T6, h6, X6, e6, W6, st6⟩ := stR X5 hx hZ K5 ArB (j := (0 : Int32)) hin22 rfl StB (g := (mkF m 22 #[.val (.ref a1), .val (.ref b3), .val (.int (0 : Int32))] [(.ref t0), (.int (0 : Int32)), (.ref b3)])) rfl rfl (hb hby d42_22)
  have V6 := Arv.set ArB qB SB NB HB GB (v := .ref t0) rfl W6 0 (by decide) (by simp)
  have N6 := Fr.snoc X6 N5 g_b3
  have Kw6 := Keep.of_wr W6
  have Kc6 : Keep h0 h6 [] := K3.trans Kw6 (allS (Or.inr sz_b3) all0)
  obtain ⟨cl_a1_7, Ar_a1_7, -, S_a1_7, N_a1_7, H_a1_7, -⟩ := id ((V_a1.ext E3).keep Kw6 (ninS hne1 nin0))
  obtain ⟨_, _, ⟨T8, L8, k8, n8⟩, -, X8, ⟨Lc8, hQ8, l8, y8, z8⟩, st8⟩ := Jvm.LawKit.callS X6 hx (y := own_y17) hown (mvT hZ (own_w hw 320 rfl)) (mvT hZ (own_w hw 245 rfl)) (mvT hZ (own_w hw 134 rfl)) (mvT hZ (own_w hw 246 rfl)) (by decide) (backOf (W := 2) (rm_rnn l Z a0 hw [] t1  h6 n0 (Nat.le_trans (Nat.le_trans Z0 E3.1) Kw6.1)) hZ (own_w hw 246 rfl) (own_w hw 134 rfl) (by decide) (by decide)) (g := (mkF m 19 #[.val (.ref a1), .val (.ref b3), .val (.int ((0 : Int32) + (1 : Int32)))] [(.ref t1), (.int ((0 : Int32) + (1 : Int32))), (.ref b3)])) rfl (by rw [hml]; rfl) (argsL := [(.ref t1)]) (rest := [(.int ((0 : Int32) + (1 : Int32))), (.ref b3)]) (lenOf pd_42_27 rfl) rfl (Nat.le_of_eq rfl) (hb hby d42_19) (fun _ _ => ⟨rfl, e6, (by decide : 1 + 0 ≤ _), (by decide : 3 + 0 ≤ _)⟩)
  dsimp only [Pt.U, Pt.locs, Pt.cells, Pt.slots] at X8 l8 y8 z8 st8 hQ8
  subst l8 y8 z8
  obtain ⟨rfl, N8q, K8⟩ := hQ8
  have N8 := Fr.app N6 N8q
  obtain ⟨clB, ArB, qB, SB, NB, HB, GB⟩ := V6
  have hin22 : ¬ (((0 : Int32) + (1 : Int32)) < 0 ∨ clB.slots.size ≤ (((0 : Int32) + (1 : Int32))).toNatClampNeg) := inb_of SB ⟨by decide, by decide⟩
  have StB : Sto Z h6 b3 (.ref t1) := Sto.ofV ArB qB O3 (own_insK I_t1 Kc6)
  obtain ⟨T9, h9, X9, e9, W9, st9⟩ := stR X8 hx hZ K8 ArB (j := ((0 : Int32) + (1 : Int32))) hin22 rfl StB (g := (mkF m 22 #[.val (.ref a1), .val (.ref b3), .val (.int ((0 : Int32) + (1 : Int32)))] [(.ref t1), (.int ((0 : Int32) + (1 : Int32))), (.ref b3)])) rfl rfl (hb hby d42_22)
  have V9 := Arv.set ArB qB SB NB HB GB (v := .ref t1) rfl W9 1 (by decide) (by simp)
  have N9 := Fr.snoc X9 N8 g_b3
  have Kw9 := Keep.of_wr W9
  have Kc9 : Keep h0 h9 [] := Kc6.trans Kw9 (allS (Or.inr sz_b3) all0)
  obtain ⟨cl_a1_10, Ar_a1_10, -, S_a1_10, N_a1_10, H_a1_10, -⟩ := id (((V_a1.ext E3).keep Kw6 (ninS hne1 nin0)).keep Kw9 (ninS hne1 nin0))
  obtain ⟨_, _, ⟨T11, L11, k11, n11⟩, -, X11, ⟨Lc11, hQ11, l11, y11, z11⟩, st11⟩ := Jvm.LawKit.callS X9 hx (y := own_y17) hown (mvT hZ (own_w hw 320 rfl)) (mvT hZ (own_w hw 245 rfl)) (mvT hZ (own_w hw 134 rfl)) (mvT hZ (own_w hw 246 rfl)) (by decide) (backOf (W := 2) (rm_rnn l Z a0 hw [] t2  h9 n0 (Nat.le_trans (Nat.le_trans (Nat.le_trans Z0 E3.1) Kw6.1) Kw9.1)) hZ (own_w hw 246 rfl) (own_w hw 134 rfl) (by decide) (by decide)) (g := (mkF m 19 #[.val (.ref a1), .val (.ref b3), .val (.int (((0 : Int32) + (1 : Int32)) + (1 : Int32)))] [(.ref t2), (.int (((0 : Int32) + (1 : Int32)) + (1 : Int32))), (.ref b3)])) rfl (by rw [hml]; rfl) (argsL := [(.ref t2)]) (rest := [(.int (((0 : Int32) + (1 : Int32)) + (1 : Int32))), (.ref b3)]) (lenOf pd_42_27 rfl) rfl (Nat.le_of_eq rfl) (hb hby d42_19) (fun _ _ => ⟨rfl, e9, (by decide : 1 + 0 ≤ _), (by decide : 3 + 0 ≤ _)⟩)
  dsimp only [Pt.U, Pt.locs, Pt.cells, Pt.slots] at X11 l11 y11 z11 st11 hQ11
  subst l11 y11 z11
  obtain ⟨rfl, N11q, K11⟩ := hQ11
  have N11 := Fr.app N9 N11q
  obtain ⟨clB, ArB, qB, SB, NB, HB, GB⟩ := V9
  have hin22 : ¬ ((((0 : Int32) + (1 : Int32)) + (1 : Int32)) < 0 ∨ clB.slots.size ≤ ((((0 : Int32) + (1 : Int32)) + (1 : Int32))).toNatClampNeg) := inb_of SB ⟨by decide, by decide⟩
  have StB : Sto Z h9 b3 (.ref t2) := Sto.ofV ArB qB O3 (own_insK I_t2 Kc9)
  obtain ⟨T12, h12, X12, e12, W12, st12⟩ := stR X11 hx hZ K11 ArB (j := (((0 : Int32) + (1 : Int32)) + (1 : Int32))) hin22 rfl StB (g := (mkF m 22 #[.val (.ref a1), .val (.ref b3), .val (.int (((0 : Int32) + (1 : Int32)) + (1 : Int32)))] [(.ref t2), (.int (((0 : Int32) + (1 : Int32)) + (1 : Int32))), (.ref b3)])) rfl rfl (hb hby d42_22)
  have V12 := Arv.set ArB qB SB NB HB GB (v := .ref t2) rfl W12 2 (by decide) (by simp)
  have N12 := Fr.snoc X12 N11 g_b3
  have Kw12 := Keep.of_wr W12
  have Kc12 : Keep h0 h12 [] := Kc9.trans Kw12 (allS (Or.inr sz_b3) all0)
  obtain ⟨cl_a1_13, Ar_a1_13, -, S_a1_13, N_a1_13, H_a1_13, -⟩ := id ((((V_a1.ext E3).keep Kw6 (ninS hne1 nin0)).keep Kw9 (ninS hne1 nin0)).keep Kw12 (ninS hne1 nin0))
  obtain ⟨T14, h14, X14, e14, E14, A14, D14, -, st14⟩ := newO X12 hx hZ hown (own_w hw 148 rfl) (own_w hw 321 rfl) (own_w hw 288 rfl) e12 (g := (mkF m 29 #[.val (.ref a1), .val (.ref b3), .val (.int ((((0 : Int32) + (1 : Int32)) + (1 : Int32)) + (1 : Int32)))] [])) rfl (hb hby d42_29) (by decide) (by decide)
  obtain ⟨b14, g14⟩ : ∃ z, z = h12.size := ⟨_, rfl⟩
  rw [← g14] at A14 D14 st14
  have F_elements_b14 : Fld Z h14 b14 "java/util/ImmutableCollections$ListN" "elements" "[Ljava/lang/Object;" .null := D14 (Or.inr (own_w hw 291 rfl)) (ty := (.array (.object "java/lang/Object"))) (by decide)
  have F_allowNulls_b14 : Fld Z h14 b14 "java/util/ImmutableCollections$ListN" "allowNulls" "Z" (.int (0 : Int32)) := D14 (Or.inr (own_w hw 331 rfl)) (ty := .boolean) (by decide)
  have E_b14 := A14
  have g_b14 : n0 ≤ b14 := Nat.le_trans (Nat.le_trans (Nat.le_trans (Nat.le_trans (Nat.le_trans Z0 E3.1) Kw6.1) Kw9.1) Kw12.1) (Nat.le_of_eq g14.symm)
  have sz_b14 : h0.size ≤ b14 := (Nat.le_trans Kc12.1 (Nat.le_of_eq g14.symm))
  have K14 : Keep h0 h14 [] := Kc12.ext E14
  obtain ⟨_, _, ⟨T15, L15, k15, n15⟩, -, X15, ⟨Lc15, hQ15, l15, y15, z15⟩, st15⟩ := X14.specialBackNest hx (y := own_y47) rfl hown (Cond.methodLinkNest_wide hZ (own_w hw 322 rfl) :) (mvT hZ (own_w hw 323 rfl)) (mvT hZ (own_w hw 325 rfl)) (by decide) (backOf (W := 1) (rm_lninit l Z a0 hw [] b14 b3 (0 : Int32) _ _ h14 n0 (Nat.le_trans (Nat.le_trans (Nat.le_trans (Nat.le_trans (Nat.le_trans Z0 E3.1) Kw6.1) Kw9.1) Kw12.1) E14.1) E_b14 F_elements_b14 g_b14 F_allowNulls_b14) hZ (own_w hw 325 rfl) (own_w hw 288 rfl) (by decide) (by decide)) (g := (mkF m 35 #[.val (.ref a1), .val (.ref b3), .val (.int ((((0 : Int32) + (1 : Int32)) + (1 : Int32)) + (1 : Int32)))] [(.int (0 : Int32)), (.ref b3), (.ref b14), (.ref b14)])) rfl (by rw [hml]; rfl) (Steps.refl _) (a := b14) (argsL := [(.ref b3), (.int (0 : Int32))]) (rest := [(.ref b14)]) (lenOf pd_42_30 rfl) rfl (Nat.le_of_eq rfl) (hb hby d42_35) (fun _ _ => ⟨rfl, e14, (by decide : 2 + 0 ≤ _), (by decide : 5 + 0 ≤ _)⟩)
  dsimp only [Pt.U, Pt.locs, Pt.cells, Pt.slots] at X15 l15 y15 z15 st15 hQ15
  subst l15 y15 z15
  obtain ⟨rfl, N15q, K15, Ea15, Fa15⟩ := hQ15
  have N15 := Fr.app N12 N15q
  have Kc15 : Keep h0 T15.heap [] := K14.trans K15 (allS (Or.inr sz_b14) all0)
  obtain ⟨fs, hr, hrun, hended, hW, hsame⟩ := X15.leave (v := some (.ref b14)) (fun h => by rw [Bd.returns] at h; cases h)
  refine ⟨_, _, pre0 _ ?_, hrun, hended, _, _, rfl, ?_, ⟨_, rfl⟩, hW, hsame.mono (by decide) (by decide)⟩
  · show Steps _ _ _ (s₁.setTop (mkF m 0 #[.val (.ref a1), .unset, .unset] [])) _
    refine XS.aloadN X0.here hx rfl (hb hby d42_0) rfl rfl ?_
    show Steps _ _ _ (s₁.setTop (mkF m 1 #[.val (.ref a1), .unset, .unset] [(.ref a1)])) _
    refine X0.arraylength hx (by rw [e0]; exact Ar_a1_2.1) (State.isArrayOf_alike hZ.alike Ar_a1_2.2.1) (g := (mkF m 1 #[.val (.ref a1), .unset, .unset] [(.ref a1)])) rfl rfl (hb hby d42_1) _ ?_
    rw [len_of S_a1_2 N_a1_2]
    show Steps _ _ _ (s₁.setTop (mkF m 2 #[.val (.ref a1), .unset, .unset] [(.int (3 : Int32))])) _
    refine st3 _ ?_
    show Steps _ _ _ (T3.setTop (mkF m 5 #[.val (.ref a1), .unset, .unset] [(.ref b3)])) _
    refine XS.astoreN X3.here hx rfl (hb hby d42_5) rfl rfl (l' := #[.val (.ref a1), .val (.ref b3), .unset]) rfl ?_
    refine XS.iconst X3.here hx rfl (hb hby d42_6) ?_
    refine XS.istoreN X3.here hx rfl (hb hby d42_7) rfl (l' := #[.val (.ref a1), .val (.ref b3), .val (.int (0 : Int32))]) rfl ?_
    refine XS.iloadN X3.here hx rfl (hb hby d42_8) rfl ?_
    show Steps _ _ _ (T3.setTop (mkF m 9 #[.val (.ref a1), .val (.ref b3), .val (.int (0 : Int32))] [(.int (0 : Int32))])) _
    refine XS.aloadN X3.here hx rfl (hb hby d42_9) rfl rfl ?_
    show Steps _ _ _ (T3.setTop (mkF m 10 #[.val (.ref a1), .val (.ref b3), .val (.int (0 : Int32))] [(.ref a1), (.int (0 : Int32))])) _
    refine X3.arraylength hx (by rw [e3]; exact Ar_a1_4.1) (State.isArrayOf_alike hZ.alike Ar_a1_4.2.1) (g := (mkF m 10 #[.val (.ref a1), .val (.ref b3), .val (.int (0 : Int32))] [(.ref a1), (.int (0 : Int32))])) rfl rfl (hb hby d42_10) _ ?_
    rw [len_of S_a1_4 N_a1_4]
    show Steps _ _ _ (T3.setTop (mkF m 11 #[.val (.ref a1), .val (.ref b3), .val (.int (0 : Int32))] [(.int (3 : Int32)), (.int (0 : Int32))])) _
    refine XS.icmpNo X3.here hx rfl (hb hby d42_11) rfl (tlt (by decide : (0 : Int32) < (3 : Int32))).2.1 ?_
    refine XS.aloadN X3.here hx rfl (hb hby d42_14) rfl rfl ?_
    refine XS.iloadN X3.here hx rfl (hb hby d42_15) rfl ?_
    refine XS.aloadN X3.here hx rfl (hb hby d42_16) rfl rfl ?_
    show Steps _ _ _ (T3.setTop (mkF m 17 #[.val (.ref a1), .val (.ref b3), .val (.int (0 : Int32))] [(.ref a1), (.int (0 : Int32)), (.ref b3)])) _
    refine XS.iloadN X3.here hx rfl (hb hby d42_17) rfl ?_
    show Steps _ _ _ (T3.setTop (mkF m 18 #[.val (.ref a1), .val (.ref b3), .val (.int (0 : Int32))] [(.int (0 : Int32)), (.ref a1), (.int (0 : Int32)), (.ref b3)])) _
    refine X3.aaload hx (j := (0 : Int32)) (v := (.ref t0)) (by rw [e3]; exact Ar_a1_4.1) (State.isArrayOf_alike hZ.alike Ar_a1_4.2.1) rfl Ar_a1_4.2.2 (by rw [S_a1_4]; decide) (own_at (by decide) (H_a1_4 0 (by rw [S_a1_4]; decide))) (g := (mkF m 18 #[.val (.ref a1), .val (.ref b3), .val (.int (0 : Int32))] [(.int (0 : Int32)), (.ref a1), (.int (0 : Int32)), (.ref b3)])) rfl rfl (hb hby d42_18) _ ?_
    show Steps _ _ _ (T3.setTop (mkF m 19 #[.val (.ref a1), .val (.ref b3), .val (.int (0 : Int32))] [(.ref t0), (.int (0 : Int32)), (.ref b3)])) _
    refine st5 _ ?_
    show Steps _ _ _ (T5.setTop (mkF m 22 #[.val (.ref a1), .val (.ref b3), .val (.int (0 : Int32))] [(.ref t0), (.int (0 : Int32)), (.ref b3)])) _
    refine st6 _ ?_
    show Steps _ _ _ (T6.setTop (mkF m 23 #[.val (.ref a1), .val (.ref b3), .val (.int (0 : Int32))] [])) _
    refine XS.iinc X6.here hx rfl (hb hby d42_23) rfl (l' := #[.val (.ref a1), .val (.ref b3), .val (.int ((0 : Int32) + (1 : Int32)))]) rfl ?_
    refine XS.goto X6.here hx rfl (pc0 := 26) (pc' := 8) rfl (hb hby d42_26) (by decide) (by decide) ?_
    refine XS.iloadN X6.here hx rfl (hb hby d42_8) rfl ?_
    refine XS.aloadN X6.here hx rfl (hb hby d42_9) rfl rfl ?_
    show Steps _ _ _ (T6.setTop (mkF m 10 #[.val (.ref a1), .val (.ref b3), .val (.int ((0 : Int32) + (1 : Int32)))] [(.ref a1), (.int ((0 : Int32) + (1 : Int32)))])) _
    refine X6.arraylength hx (by rw [e6]; exact Ar_a1_7.1) (State.isArrayOf_alike hZ.alike Ar_a1_7.2.1) (g := (mkF m 10 #[.val (.ref a1), .val (.ref b3), .val (.int ((0 : Int32) + (1 : Int32)))] [(.ref a1), (.int ((0 : Int32) + (1 : Int32)))])) rfl rfl (hb hby d42_10) _ ?_
    rw [len_of S_a1_7 N_a1_7]
    show Steps _ _ _ (T6.setTop (mkF m 11 #[.val (.ref a1), .val (.ref b3), .val (.int ((0 : Int32) + (1 : Int32)))] [(.int (3 : Int32)), (.int ((0 : Int32) + (1 : Int32)))])) _
    refine XS.icmpNo X6.here hx rfl (hb hby d42_11) rfl (tlt (by decide : ((0 : Int32) + (1 : Int32)) < (3 : Int32))).2.1 ?_
    refine XS.aloadN X6.here hx rfl (hb hby d42_14) rfl rfl ?_
    refine XS.iloadN X6.here hx rfl (hb hby d42_15) rfl ?_
    refine XS.aloadN X6.here hx rfl (hb hby d42_16) rfl rfl ?_
    show Steps _ _ _ (T6.setTop (mkF m 17 #[.val (.ref a1), .val (.ref b3), .val (.int ((0 : Int32) + (1 : Int32)))] [(.ref a1), (.int ((0 : Int32) + (1 : Int32))), (.ref b3)])) _
    refine XS.iloadN X6.here hx rfl (hb hby d42_17) rfl ?_
    show Steps _ _ _ (T6.setTop (mkF m 18 #[.val (.ref a1), .val (.ref b3), .val (.int ((0 : Int32) + (1 : Int32)))] [(.int ((0 : Int32) + (1 : Int32))), (.ref a1), (.int ((0 : Int32) + (1 : Int32))), (.ref b3)])) _
    refine X6.aaload hx (j := ((0 : Int32) + (1 : Int32))) (v := (.ref t1)) (by rw [e6]; exact Ar_a1_7.1) (State.isArrayOf_alike hZ.alike Ar_a1_7.2.1) rfl Ar_a1_7.2.2 (by rw [S_a1_7]; decide) (own_at (by decide) (H_a1_7 1 (by rw [S_a1_7]; decide))) (g := (mkF m 18 #[.val (.ref a1), .val (.ref b3), .val (.int ((0 : Int32) + (1 : Int32)))] [(.int ((0 : Int32) + (1 : Int32))), (.ref a1), (.int ((0 : Int32) + (1 : Int32))), (.ref b3)])) rfl rfl (hb hby d42_18) _ ?_
    show Steps _ _ _ (T6.setTop (mkF m 19 #[.val (.ref a1), .val (.ref b3), .val (.int ((0 : Int32) + (1 : Int32)))] [(.ref t1), (.int ((0 : Int32) + (1 : Int32))), (.ref b3)])) _
    refine st8 _ ?_
    show Steps _ _ _ (T8.setTop (mkF m 22 #[.val (.ref a1), .val (.ref b3), .val (.int ((0 : Int32) + (1 : Int32)))] [(.ref t1), (.int ((0 : Int32) + (1 : Int32))), (.ref b3)])) _
    refine st9 _ ?_
    show Steps _ _ _ (T9.setTop (mkF m 23 #[.val (.ref a1), .val (.ref b3), .val (.int ((0 : Int32) + (1 : Int32)))] [])) _
    refine XS.iinc X9.here hx rfl (hb hby d42_23) rfl (l' := #[.val (.ref a1), .val (.ref b3), .val (.int (((0 : Int32) + (1 : Int32)) + (1 : Int32)))]) rfl ?_
    refine XS.goto X9.here hx rfl (pc0 := 26) (pc' := 8) rfl (hb hby d42_26) (by decide) (by decide) ?_
    refine XS.iloadN X9.here hx rfl (hb hby d42_8) rfl ?_
    refine XS.aloadN X9.here hx rfl (hb hby d42_9) rfl rfl ?_
    show Steps _ _ _ (T9.setTop (mkF m 10 #[.val (.ref a1), .val (.ref b3), .val (.int (((0 : Int32) + (1 : Int32)) + (1 : Int32)))] [(.ref a1), (.int (((0 : Int32) + (1 : Int32)) + (1 : Int32)))])) _
    refine X9.arraylength hx (by rw [e9]; exact Ar_a1_10.1) (State.isArrayOf_alike hZ.alike Ar_a1_10.2.1) (g := (mkF m 10 #[.val (.ref a1), .val (.ref b3), .val (.int (((0 : Int32) + (1 : Int32)) + (1 : Int32)))] [(.ref a1), (.int (((0 : Int32) + (1 : Int32)) + (1 : Int32)))])) rfl rfl (hb hby d42_10) _ ?_
    rw [len_of S_a1_10 N_a1_10]
    show Steps _ _ _ (T9.setTop (mkF m 11 #[.val (.ref a1), .val (.ref b3), .val (.int (((0 : Int32) + (1 : Int32)) + (1 : Int32)))] [(.int (3 : Int32)), (.int (((0 : Int32) + (1 : Int32)) + (1 : Int32)))])) _
    refine XS.icmpNo X9.here hx rfl (hb hby d42_11) rfl (tlt (by decide : (((0 : Int32) + (1 : Int32)) + (1 : Int32)) < (3 : Int32))).2.1 ?_
    refine XS.aloadN X9.here hx rfl (hb hby d42_14) rfl rfl ?_
    refine XS.iloadN X9.here hx rfl (hb hby d42_15) rfl ?_
    refine XS.aloadN X9.here hx rfl (hb hby d42_16) rfl rfl ?_
    show Steps _ _ _ (T9.setTop (mkF m 17 #[.val (.ref a1), .val (.ref b3), .val (.int (((0 : Int32) + (1 : Int32)) + (1 : Int32)))] [(.ref a1), (.int (((0 : Int32) + (1 : Int32)) + (1 : Int32))), (.ref b3)])) _
    refine XS.iloadN X9.here hx rfl (hb hby d42_17) rfl ?_
    show Steps _ _ _ (T9.setTop (mkF m 18 #[.val (.ref a1), .val (.ref b3), .val (.int (((0 : Int32) + (1 : Int32)) + (1 : Int32)))] [(.int (((0 : Int32) + (1 : Int32)) + (1 : Int32))), (.ref a1), (.int (((0 : Int32) + (1 : Int32)) + (1 : Int32))), (.ref b3)])) _
    refine X9.aaload hx (j := (((0 : Int32) + (1 : Int32)) + (1 : Int32))) (v := (.ref t2)) (by rw [e9]; exact Ar_a1_10.1) (State.isArrayOf_alike hZ.alike Ar_a1_10.2.1) rfl Ar_a1_10.2.2 (by rw [S_a1_10]; decide) (own_at (by decide) (H_a1_10 2 (by rw [S_a1_10]; decide))) (g := (mkF m 18 #[.val (.ref a1), .val (.ref b3), .val (.int (((0 : Int32) + (1 : Int32)) + (1 : Int32)))] [(.int (((0 : Int32) + (1 : Int32)) + (1 : Int32))), (.ref a1), (.int (((0 : Int32) + (1 : Int32)) + (1 : Int32))), (.ref b3)])) rfl rfl (hb hby d42_18) _ ?_
    show Steps _ _ _ (T9.setTop (mkF m 19 #[.val (.ref a1), .val (.ref b3), .val (.int (((0 : Int32) + (1 : Int32)) + (1 : Int32)))] [(.ref t2), (.int (((0 : Int32) + (1 : Int32)) + (1 : Int32))), (.ref b3)])) _
    refine st11 _ ?_
    show Steps _ _ _ (T11.setTop (mkF m 22 #[.val (.ref a1), .val (.ref b3), .val (.int (((0 : Int32) + (1 : Int32)) + (1 : Int32)))] [(.ref t2), (.int (((0 : Int32) + (1 : Int32)) + (1 : Int32))), (.ref b3)])) _
    refine st12 _ ?_
    show Steps _ _ _ (T12.setTop (mkF m 23 #[.val (.ref a1), .val (.ref b3), .val (.int (((0 : Int32) + (1 : Int32)) + (1 : Int32)))] [])) _
    refine XS.iinc X12.here hx rfl (hb hby d42_23) rfl (l' := #[.val (.ref a1), .val (.ref b3), .val (.int ((((0 : Int32) + (1 : Int32)) + (1 : Int32)) + (1 : Int32)))]) rfl ?_
    refine XS.goto X12.here hx rfl (pc0 := 26) (pc' := 8) rfl (hb hby d42_26) (by decide) (by decide) ?_
    refine XS.iloadN X12.here hx rfl (hb hby d42_8) rfl ?_
    refine XS.aloadN X12.here hx rfl (hb hby d42_9) rfl rfl ?_
    show Steps _ _ _ (T12.setTop (mkF m 10 #[.val (.ref a1), .val (.ref b3), .val (.int ((((0 : Int32) + (1 : Int32)) + (1 : Int32)) + (1 : Int32)))] [(.ref a1), (.int ((((0 : Int32) + (1 : Int32)) + (1 : Int32)) + (1 : Int32)))])) _
    refine X12.arraylength hx (by rw [e12]; exact Ar_a1_13.1) (State.isArrayOf_alike hZ.alike Ar_a1_13.2.1) (g := (mkF m 10 #[.val (.ref a1), .val (.ref b3), .val (.int ((((0 : Int32) + (1 : Int32)) + (1 : Int32)) + (1 : Int32)))] [(.ref a1), (.int ((((0 : Int32) + (1 : Int32)) + (1 : Int32)) + (1 : Int32)))])) rfl rfl (hb hby d42_10) _ ?_
    rw [len_of S_a1_13 N_a1_13]
    show Steps _ _ _ (T12.setTop (mkF m 11 #[.val (.ref a1), .val (.ref b3), .val (.int ((((0 : Int32) + (1 : Int32)) + (1 : Int32)) + (1 : Int32)))] [(.int (3 : Int32)), (.int ((((0 : Int32) + (1 : Int32)) + (1 : Int32)) + (1 : Int32)))])) _
    refine XS.icmpYes X12.here hx rfl (pc0 := 11) (pc' := 29) rfl (hb hby d42_11) rfl (flt (by decide : ¬ (((((0 : Int32) + (1 : Int32)) + (1 : Int32)) + (1 : Int32)) < (3 : Int32)))).2.1 (by decide) (by decide) ?_
    show Steps _ _ _ (T12.setTop (mkF m 29 #[.val (.ref a1), .val (.ref b3), .val (.int ((((0 : Int32) + (1 : Int32)) + (1 : Int32)) + (1 : Int32)))] [])) _
    refine st14 _ ?_
    show Steps _ _ _ (T14.setTop (mkF m 32 #[.val (.ref a1), .val (.ref b3), .val (.int ((((0 : Int32) + (1 : Int32)) + (1 : Int32)) + (1 : Int32)))] [(.ref b14)])) _
    refine XS.dup X14.here hx rfl (hb hby d42_32) rfl rfl ?_
    refine XS.aloadN X14.here hx rfl (hb hby d42_33) rfl rfl ?_
    refine XS.iconst X14.here hx rfl (hb hby d42_34) ?_
    show Steps _ _ _ (T14.setTop (mkF m 35 #[.val (.ref a1), .val (.ref b3), .val (.int ((((0 : Int32) + (1 : Int32)) + (1 : Int32)) + (1 : Int32)))] [(.int (0 : Int32)), (.ref b3), (.ref b14), (.ref b14)])) _
    refine st15.trans ?_
    show Steps _ _ _ (T15.setTop (mkF m 38 #[.val (.ref a1), .val (.ref b3), .val (.int ((((0 : Int32) + (1 : Int32)) + (1 : Int32)) + (1 : Int32)))] [(.ref b14)])) _
    jvm_step X15.here [X15.here.top, hx, (hb hby d42_38), X15.method', Bd.returns, Value.isRef, FieldType.isReference]
    first | (intro acts; rw [hr _ acts rfl rfl rfl]) | rw [hr _ _ rfl rfl rfl]
    exact Steps.refl _
  · show Q_lfa Z a1 kS t0 t1 t2 h0 n0 _ T15.heap _
    exact ⟨b14, b3, rfl, N15, own_ext Kc15, Ea15, Fa15, own_arr (((V12.ext E14).keep K15 (ninS (Nat.ne_of_lt (Nat.lt_of_lt_of_le V12.lt (Nat.le_of_eq g14.symm))) nin0)))⟩
theorem d33_0 : decode jdk_40_method_47_code 0 = .ok (.aload_n 0, 1) := by decide +kernel
theorem d33_1 : decode jdk_40_method_47_code 1 = .ok (.arraylength, 1) := by decide +kernel
theorem d33_2 : decode jdk_40_method_47_code 2 = .ok (.tableswitch 57 0 2 #[26, 32, 43], 26) := by decide +kernel
theorem d33_34 : decode jdk_40_method_47_code 34 = .ok (.new 96, 3) := by decide +kernel
theorem d33_37 : decode jdk_40_method_47_code 37 = .ok (.dup, 1) := by decide +kernel
theorem d33_38 : decode jdk_40_method_47_code 38 = .ok (.aload_n 0, 1) := by decide +kernel
theorem d33_39 : decode jdk_40_method_47_code 39 = .ok (.iconst 0, 1) := by decide +kernel
theorem d33_40 : decode jdk_40_method_47_code 40 = .ok (.aaload, 1) := by decide +kernel
theorem d33_41 : decode jdk_40_method_47_code 41 = .ok (.invokespecial 98, 3) := by decide +kernel
theorem d33_44 : decode jdk_40_method_47_code 44 = .ok (.areturn, 1) := by decide +kernel
theorem pn_33 : plainName "java/util/List" = true := by first | (simp [plainName, overriddenIn]; done) | decide +kernel
theorem pd_33_26 : parseMethodDescriptor "(Ljava/lang/Object;)V" = some ⟨[(.object "java/lang/Object")], none⟩ := by decide +kernel
theorem ef_33 (m : MethodId) (x0 : Addr) : entryFrame m #[(.ref x0)] 2 = mkF m 0 #[.val (.ref x0), .unset] [] := by first | (simp [entryFrame, mkF, argsToLocals, Value.category]; done) | rfl
def Q_of1 (Z : State) (a1 : Addr) (kS : ClassId) (t0 : Addr) (wO : Addr) (h0 : Heap) (n0 : Nat) (v : Option Value) (h : Heap) (L : List Loc) : Prop := ∃ b, v = some (.ref b) ∧ Fr n0 L ∧ Ext h0 h ∧ Exa Z h b "java/util/ImmutableCollections$List12" ∧ Fld Z h b "java/util/ImmutableCollections$List12" "e1" "Ljava/lang/Object;" (.ref wO)
theorem rm_of1 (l : Launch) (Z : State) (a0 : Array Value) (hw : ∀ d ∈ tables_1, d.before a0 Z = true) (ws : List Jvm.Cond) (a1 : Addr) (kS : ClassId) (t0 : Addr) (wO : Addr) (h0 : Heap) (n0 : Nat) (Z0 : n0 ≤ h0.size) (Ol : Old Z n0 h0) (S_EMPTY : Sta Z Z.heap "java/util/ImmutableCollections" "EMPTY" "Ljava/lang/Object;" (.ref wO)) (V_a1 : Arv Z h0 a1 kS (.object "java/lang/Object") (1 : Int32) [.ref t0] .null) (I_t0 : Ins Z h0 t0 "java/lang/Object" true) :
    MetFree l own_y15 (head1 (Jvm.Cond.code own_y15 jdk_40_method_47_code 2 (some (.object "java/util/List")) :: ws) own_r7) (fun a U => a = #[(.ref a1)] ∧ Z.Warmed39 U.vm ∧ U.heap = h0) (fun _ _ _ _ _ => True) (fun _ U o U' => ∃ v L, o = .returned v ∧ Q_of1 Z a1 kS t0 wO h0 n0 v U'.heap L ∧ FrameEnd U o U' L own_r7.cells own_r7.slots) := by
  refine MetFree.of_bodySF (plainFor_of_name pn_33) hisR ?_
  intro p e s m args below meth c s₁ Bd hml0 hP hK
  obtain ⟨rfl, hZ, hh⟩ := hP
  have hx := Bd.exec
  have hby := Bd.bytes
  have hml : c.maxLocals = 2 := hml0
  have hown : s.vm.findClass "java/util/List" = some m.cls := findClass_of_methodNamed Bd.named
  have hnm := (name_of_methodNamed Bd.named Bd.method).1
  have X0 : Stand p l e own_r7 s m #[(.ref a1)] below meth c s₁ [] 0 0 := Stand.of_body Bd
  have e0 : s₁.heap = h0 := by rw [← hh, Bd.state]; rfl
  have N0 := Fr.nil n0
  have pre0 : ∀ t, Steps p.tables e below (s₁.setTop (mkF m 0 #[.val (.ref a1), .unset] [])) t → Steps p.tables e below (s₁.setTop (entryFrame m #[(.ref a1)] 2)) t := fun t k => castTop (ef_33 m a1) k
  obtain ⟨cl_a1, Ar_a1, -, S_a1, N_a1, H_a1, -⟩ := id V_a1
  obtain ⟨T2, h2, X2, e2, E2, A2, D2, -, st2⟩ := newO X0 hx hZ hown (own_w hw 223 rfl) (own_w hw 224 rfl) (own_w hw 225 rfl) e0 (g := (mkF m 34 #[.val (.ref a1), .unset] [])) rfl (hb hby d33_34) (by decide) (by decide)
  obtain ⟨b2, g2⟩ : ∃ z, z = h0.size := ⟨_, rfl⟩
  rw [← g2] at A2 D2 st2
  have F_e0_b2 : Fld Z h2 b2 "java/util/ImmutableCollections$List12" "e0" "Ljava/lang/Object;" .null := D2 (Or.inr (own_w hw 248 rfl)) (ty := (.object "java/lang/Object")) (by decide)
  have F_e1_b2 : Fld Z h2 b2 "java/util/ImmutableCollections$List12" "e1" "Ljava/lang/Object;" .null := D2 (Or.inr (own_w hw 251 rfl)) (ty := (.object "java/lang/Object")) (by decide)
  have E_b2 := A2
  have g_b2 : n0 ≤ b2 := Nat.le_trans Z0 (Nat.le_of_eq g2.symm)
  have sz_b2 : h0.size ≤ b2 := (Nat.le_trans (Keep.refl h0 []).1 (Nat.le_of_eq g2.symm))
  have K2 : Keep h0 h2 [] := (Keep.refl h0 []).ext E2
  obtain ⟨_, _, ⟨T3, L3, k3, n3⟩, -, X3, ⟨Lc3, hQ3, l3, y3, z3⟩, st3⟩ := X2.specialBack hx (y := own_y45) rfl hown (mvT hZ (own_w hw 226 rfl)) (mvT hZ (own_w hw 227 rfl)) (mvT hZ (own_w hw 229 rfl)) (by decide) (backOf (W := 1) (rm_l1init l Z a0 hw [] b2 t0 wO _ _ h2 n0 (Nat.le_trans Z0 E2.1) (Ol.ext E2) S_EMPTY E_b2 F_e0_b2 g_b2 F_e1_b2) hZ (own_w hw 229 rfl) (own_w hw 225 rfl) (by decide) (by decide)) (g := (mkF m 41 #[.val (.ref a1), .unset] [(.ref t0), (.ref b2), (.ref b2)])) rfl (by rw [hml]; rfl) (Steps.refl _) (a := b2) (argsL := [(.ref t0)]) (rest := [(.ref b2)]) (lenOf pd_33_26 rfl) rfl (Nat.le_of_eq rfl) (hb hby d33_41) (fun _ _ => ⟨rfl, e2, (by decide : 1 + 0 ≤ _), (by decide : 2 + 0 ≤ _)⟩)
  dsimp only [Pt.U, Pt.locs, Pt.cells, Pt.slots] at X3 l3 y3 z3 st3 hQ3
  subst l3 y3 z3
  obtain ⟨rfl, N3q, K3, Ea3, F13⟩ := hQ3
  have N3 := Fr.app N0 N3q
  have Kc3 : Keep h0 T3.heap [] := K2.trans K3 (allS (Or.inr sz_b2) all0)
  obtain ⟨fs, hr, hrun, hended, hW, hsame⟩ := X3.leave (v := some (.ref b2)) (fun h => by rw [Bd.returns] at h; cases h)
  refine ⟨_, _, pre0 _ ?_, hrun, hended, _, _, rfl, ?_, ⟨_, rfl⟩, hW, hsame.mono (by decide) (by decide)⟩
  · show Steps _ _ _ (s₁.setTop (mkF m 0 #[.val (.ref a1), .unset] [])) _
    refine XS.aloadN X0.here hx rfl (hb hby d33_0) rfl rfl ?_
    show Steps _ _ _ (s₁.setTop (mkF m 1 #[.val (.ref a1), .unset] [(.ref a1)])) _
    refine X0.arraylength hx (by rw [e0]; exact Ar_a1.1) (State.isArrayOf_alike hZ.alike Ar_a1.2.1) (g := (mkF m 1 #[.val (.ref a1), .unset] [(.ref a1)])) rfl rfl (hb hby d33_1) _ ?_
    rw [len_of S_a1 N_a1]
    show Steps _ _ _ (s₁.setTop (mkF m 2 #[.val (.ref a1), .unset] [(.int (1 : Int32))])) _
    refine XS.tswIn X0.here hx rfl (pc0 := 2) (pc' := 34) (o := 32) rfl (hb hby d33_2) rfl (by decide) rfl (by decide) (by decide) ?_
    show Steps _ _ _ (s₁.setTop (mkF m 34 #[.val (.ref a1), .unset] [])) _
    refine st2 _ ?_
    show Steps _ _ _ (T2.setTop (mkF m 37 #[.val (.ref a1), .unset] [(.ref b2)])) _
    refine XS.dup X2.here hx rfl (hb hby d33_37) rfl rfl ?_
    refine XS.aloadN X2.here hx rfl (hb hby d33_38) rfl rfl ?_
    refine XS.iconst X2.here hx rfl (hb hby d33_39) ?_
    show Steps _ _ _ (T2.setTop (mkF m 40 #[.val (.ref a1), .unset] [(.int (0 : Int32)), (.ref a1), (.ref b2), (.ref b2)])) _
    refine X2.aaload hx (j := (0 : Int32)) (v := (.ref t0)) (by rw [e2]; exact (Ar_a1.ext E2).1) (State.isArrayOf_alike hZ.alike Ar_a1.2.1) rfl Ar_a1.2.2 (by rw [S_a1]; decide) (own_at (by decide) (H_a1 0 (by rw [S_a1]; decide))) (g := (mkF m 40 #[.val (.ref a1), .unset] [(.int (0 : Int32)), (.ref a1), (.ref b2), (.ref b2)])) rfl rfl (hb hby d33_40) _ ?_
    show Steps _ _ _ (T2.setTop (mkF m 41 #[.val (.ref a1), .unset] [(.ref t0), (.ref b2), (.ref b2)])) _
    refine st3.trans ?_
    show Steps _ _ _ (T3.setTop (mkF m 44 #[.val (.ref a1), .unset] [(.ref b2)])) _
    jvm_step X3.here [X3.here.top, hx, (hb hby d33_44), X3.method', Bd.returns, Value.isRef, FieldType.isReference]
    first | (intro acts; rw [hr _ acts rfl rfl rfl]) | rw [hr _ _ rfl rfl rfl]
    exact Steps.refl _
  · show Q_of1 Z a1 kS t0 wO h0 n0 _ T3.heap _
    exact ⟨b2, rfl, N3, own_ext Kc3, Ea3, F13⟩
theorem d33_45 : decode jdk_40_method_47_code 45 = .ok (.new 96, 3) := by decide +kernel
theorem d33_48 : decode jdk_40_method_47_code 48 = .ok (.dup, 1) := by decide +kernel
theorem d33_49 : decode jdk_40_method_47_code 49 = .ok (.aload_n 0, 1) := by decide +kernel
theorem d33_50 : decode jdk_40_method_47_code 50 = .ok (.iconst 0, 1) := by decide +kernel
theorem d33_51 : decode jdk_40_method_47_code 51 = .ok (.aaload, 1) := by decide +kernel
theorem d33_52 : decode jdk_40_method_47_code 52 = .ok (.aload_n 0, 1) := by decide +kernel
theorem d33_53 : decode jdk_40_method_47_code 53 = .ok (.iconst 1, 1) := by decide +kernel
theorem d33_54 : decode jdk_40_method_47_code 54 = .ok (.aaload, 1) := by decide +kernel
theorem d33_55 : decode jdk_40_method_47_code 55 = .ok (.invokespecial 100, 3) := by decide +kernel
theorem d33_58 : decode jdk_40_method_47_code 58 = .ok (.areturn, 1) := by decide +kernel
theorem pd_33_31 : parseMethodDescriptor "(Ljava/lang/Object;Ljava/lang/Object;)V" = some ⟨[(.object "java/lang/Object"), (.object "java/lang/Object")], none⟩ := by decide +kernel
def Q_of2 (Z : State) (a1 : Addr) (kS : ClassId) (t0 : Addr) (t1 : Addr) (h0 : Heap) (n0 : Nat) (v : Option Value) (h : Heap) (L : List Loc) : Prop := ∃ b, v = some (.ref b) ∧ Fr n0 L ∧ Ext h0 h ∧ Exa Z h b "java/util/ImmutableCollections$List12" ∧ Fld Z h b "java/util/ImmutableCollections$List12" "e1" "Ljava/lang/Object;" (.ref t1)
theorem rm_of2 (l : Launch) (Z : State) (a0 : Array Value) (hw : ∀ d ∈ tables_1, d.before a0 Z = true) (ws : List Jvm.Cond) (a1 : Addr) (kS : ClassId) (t0 : Addr) (t1 : Addr) (h0 : Heap) (n0 : Nat) (Z0 : n0 ≤ h0.size) (V_a1 : Arv Z h0 a1 kS (.object "java/lang/Object") (2 : Int32) [.ref t0, .ref t1] .null) (I_t0 : Ins Z h0 t0 "java/lang/Object" true) (I_t1 : Ins Z h0 t1 "java/lang/Object" true) :
    MetFree l own_y15 (head1 (Jvm.Cond.code own_y15 jdk_40_method_47_code 2 (some (.object "java/util/List")) :: ws) own_r7) (fun a U => a = #[(.ref a1)] ∧ Z.Warmed39 U.vm ∧ U.heap = h0) (fun _ _ _ _ _ => True) (fun _ U o U' => ∃ v L, o = .returned v ∧ Q_of2 Z a1 kS t0 t1 h0 n0 v U'.heap L ∧ FrameEnd U o U' L own_r7.cells own_r7.slots) := by
  refine MetFree.of_bodySF (plainFor_of_name pn_33) hisR ?_
  intro p e s m args below meth c s₁ Bd hml0 hP hK
  obtain ⟨rfl, hZ, hh⟩ := hP
  have hx := Bd.exec
  have hby := Bd.bytes
  have hml : c.maxLocals = 2 := hml0
  have hown : s.vm.findClass "java/util/List" = some m.cls := findClass_of_methodNamed Bd.named
  have hnm := (name_of_methodNamed Bd.named Bd.method).1
  have X0 : Stand p l e own_r7 s m #[(.ref a1)] below meth c s₁ [] 0 0 := Stand.of_body Bd
  have e0 : s₁.heap = h0 := by rw [← hh, Bd.state]; rfl
  have N0 := Fr.nil n0
  have pre0 : ∀ t, Steps p.tables e below (s₁.setTop (mkF m 0 #[.val (.ref a1), .unset] [])) t → Steps p.tables e below (s₁.setTop (entryFrame m #[(.ref a1)] 2)) t := fun t k => castTop (ef_33 m a1) k
  obtain ⟨cl_a1, Ar_a1, -, S_a1, N_a1, H_a1, -⟩ := id V_a1
  obtain ⟨T2, h2, X2, e2, E2, A2, D2, -, st2⟩ := newO X0 hx hZ hown (own_w hw 223 rfl) (own_w hw 224 rfl) (own_w hw 225 rfl) e0 (g := (mkF m 45 #[.val (.ref a1), .unset] [])) rfl (hb hby d33_45) (by decide) (by decide)
  obtain ⟨b2, g2⟩ : ∃ z, z = h0.size := ⟨_, rfl⟩
  rw [← g2] at A2 D2 st2
  have F_e0_b2 : Fld Z h2 b2 "java/util/ImmutableCollections$List12" "e0" "Ljava/lang/Object;" .null := D2 (Or.inr (own_w hw 248 rfl)) (ty := (.object "java/lang/Object")) (by decide)
  have F_e1_b2 : Fld Z h2 b2 "java/util/ImmutableCollections$List12" "e1" "Ljava/lang/Object;" .null := D2 (Or.inr (own_w hw 251 rfl)) (ty := (.object "java/lang/Object")) (by decide)
  have E_b2 := A2
  have g_b2 : n0 ≤ b2 := Nat.le_trans Z0 (Nat.le_of_eq g2.symm)
  have sz_b2 : h0.size ≤ b2 := (Nat.le_trans (Keep.refl h0 []).1 (Nat.le_of_eq g2.symm))
  have K2 : Keep h0 h2 [] := (Keep.refl h0 []).ext E2
  obtain ⟨_, _, ⟨T3, L3, k3, n3⟩, -, X3, ⟨Lc3, hQ3, l3, y3, z3⟩, st3⟩ := X2.specialBack hx (y := own_y46) rfl hown (mvT hZ (own_w hw 332 rfl)) (mvT hZ (own_w hw 333 rfl)) (mvT hZ (own_w hw 334 rfl)) (by decide) (backOf (W := 1) (rm_l2init l Z a0 hw [] b2 t0 t1 _ _ h2 n0 (Nat.le_trans Z0 E2.1) E_b2 F_e0_b2 g_b2 F_e1_b2) hZ (own_w hw 334 rfl) (own_w hw 225 rfl) (by decide) (by decide)) (g := (mkF m 55 #[.val (.ref a1), .unset] [(.ref t1), (.ref t0), (.ref b2), (.ref b2)])) rfl (by rw [hml]; rfl) (Steps.refl _) (a := b2) (argsL := [(.ref t0), (.ref t1)]) (rest := [(.ref b2)]) (lenOf pd_33_31 rfl) rfl (Nat.le_of_eq rfl) (hb hby d33_55) (fun _ _ => ⟨rfl, e2, (by decide : 1 + 0 ≤ _), (by decide : 2 + 0 ≤ _)⟩)
  dsimp only [Pt.U, Pt.locs, Pt.cells, Pt.slots] at X3 l3 y3 z3 st3 hQ3
  subst l3 y3 z3
  obtain ⟨rfl, N3q, K3, Ea3, F13⟩ := hQ3
  have N3 := Fr.app N0 N3q
  have Kc3 : Keep h0 T3.heap [] := K2.trans K3 (allS (Or.inr sz_b2) all0)
  obtain ⟨fs, hr, hrun, hended, hW, hsame⟩ := X3.leave (v := some (.ref b2)) (fun h => by rw [Bd.returns] at h; cases h)
  refine ⟨_, _, pre0 _ ?_, hrun, hended, _, _, rfl, ?_, ⟨_, rfl⟩, hW, hsame.mono (by decide) (by decide)⟩
  · show Steps _ _ _ (s₁.setTop (mkF m 0 #[.val (.ref a1), .unset] [])) _
    refine XS.aloadN X0.here hx rfl (hb hby d33_0) rfl rfl ?_
    show Steps _ _ _ (s₁.setTop (mkF m 1 #[.val (.ref a1), .unset] [(.ref a1)])) _
    refine X0.arraylength hx (by rw [e0]; exact Ar_a1.1) (State.isArrayOf_alike hZ.alike Ar_a1.2.1) (g := (mkF m 1 #[.val (.ref a1), .unset] [(.ref a1)])) rfl rfl (hb hby d33_1) _ ?_
    rw [len_of S_a1 N_a1]
    show Steps _ _ _ (s₁.setTop (mkF m 2 #[.val (.ref a1), .unset] [(.int (2 : Int32))])) _
    refine XS.tswIn X0.here hx rfl (pc0 := 2) (pc' := 45) (o := 43) rfl (hb hby d33_2) rfl (by decide) rfl (by decide) (by decide) ?_
    show Steps _ _ _ (s₁.setTop (mkF m 45 #[.val (.ref a1), .unset] [])) _
    refine st2 _ ?_
    show Steps _ _ _ (T2.setTop (mkF m 48 #[.val (.ref a1), .unset] [(.ref b2)])) _
    refine XS.dup X2.here hx rfl (hb hby d33_48) rfl rfl ?_
    refine XS.aloadN X2.here hx rfl (hb hby d33_49) rfl rfl ?_
    refine XS.iconst X2.here hx rfl (hb hby d33_50) ?_
    show Steps _ _ _ (T2.setTop (mkF m 51 #[.val (.ref a1), .unset] [(.int (0 : Int32)), (.ref a1), (.ref b2), (.ref b2)])) _
    refine X2.aaload hx (j := (0 : Int32)) (v := (.ref t0)) (by rw [e2]; exact (Ar_a1.ext E2).1) (State.isArrayOf_alike hZ.alike Ar_a1.2.1) rfl Ar_a1.2.2 (by rw [S_a1]; decide) (own_at (by decide) (H_a1 0 (by rw [S_a1]; decide))) (g := (mkF m 51 #[.val (.ref a1), .unset] [(.int (0 : Int32)), (.ref a1), (.ref b2), (.ref b2)])) rfl rfl (hb hby d33_51) _ ?_
    show Steps _ _ _ (T2.setTop (mkF m 52 #[.val (.ref a1), .unset] [(.ref t0), (.ref b2), (.ref b2)])) _
    refine XS.aloadN X2.here hx rfl (hb hby d33_52) rfl rfl ?_
    refine XS.iconst X2.here hx rfl (hb hby d33_53) ?_
    show Steps _ _ _ (T2.setTop (mkF m 54 #[.val (.ref a1), .unset] [(.int (1 : Int32)), (.ref a1), (.ref t0), (.ref b2), (.ref b2)])) _
    refine X2.aaload hx (j := (1 : Int32)) (v := (.ref t1)) (by rw [e2]; exact (Ar_a1.ext E2).1) (State.isArrayOf_alike hZ.alike Ar_a1.2.1) rfl Ar_a1.2.2 (by rw [S_a1]; decide) (own_at (by decide) (H_a1 1 (by rw [S_a1]; decide))) (g := (mkF m 54 #[.val (.ref a1), .unset] [(.int (1 : Int32)), (.ref a1), (.ref t0), (.ref b2), (.ref b2)])) rfl rfl (hb hby d33_54) _ ?_
    show Steps _ _ _ (T2.setTop (mkF m 55 #[.val (.ref a1), .unset] [(.ref t1), (.ref t0), (.ref b2), (.ref b2)])) _
    refine st3.trans ?_
    show Steps _ _ _ (T3.setTop (mkF m 58 #[.val (.ref a1), .unset] [(.ref b2)])) _
    jvm_step X3.here [X3.here.top, hx, (hb hby d33_58), X3.method', Bd.returns, Value.isRef, FieldType.isReference]
    first | (intro acts; rw [hr _ acts rfl rfl rfl]) | rw [hr _ _ rfl rfl rfl]
    exact Steps.refl _
  · show Q_of2 Z a1 kS t0 t1 h0 n0 _ T3.heap _
    exact ⟨b2, rfl, N3, own_ext Kc3, Ea3, F13⟩
theorem d33_59 : decode jdk_40_method_47_code 59 = .ok (.aload_n 0, 1) := by decide +kernel
theorem d33_60 : decode jdk_40_method_47_code 60 = .ok (.invokestatic 109, 3) := by decide +kernel
theorem d33_63 : decode jdk_40_method_47_code 63 = .ok (.areturn, 1) := by decide +kernel
theorem pd_33_25 : parseMethodDescriptor "([Ljava/lang/Object;)Ljava/util/List;" = some ⟨[(.array (.object "java/lang/Object"))], some (.object "java/util/List")⟩ := by decide +kernel
def Q_of3 (Z : State) (a1 : Addr) (kS : ClassId) (t0 : Addr) (t1 : Addr) (t2 : Addr) (h0 : Heap) (n0 : Nat) (v : Option Value) (h : Heap) (L : List Loc) : Prop := ∃ b eA, v = some (.ref b) ∧ Fr n0 L ∧ Ext h0 h ∧ Exa Z h b "java/util/ImmutableCollections$ListN" ∧ Fld Z h b "java/util/ImmutableCollections$ListN" "elements" "[Ljava/lang/Object;" (.ref eA) ∧ ∃ cE, Arr Z h eA cE (.object "java/lang/Object") ∧ cE.slots.size = (3 : Int32).toNatClampNeg
theorem rm_of3 (l : Launch) (Z : State) (a0 : Array Value) (hw : ∀ d ∈ tables_1, d.before a0 Z = true) (ws : List Jvm.Cond) (a1 : Addr) (kS : ClassId) (t0 : Addr) (t1 : Addr) (t2 : Addr) (h0 : Heap) (n0 : Nat) (Z0 : n0 ≤ h0.size) (V_a1 : Arv Z h0 a1 kS (.object "java/lang/Object") (3 : Int32) [.ref t0, .ref t1, .ref t2] .null) (I_t0 : Ins Z h0 t0 "java/lang/Object" true) (I_t1 : Ins Z h0 t1 "java/lang/Object" true) (I_t2 : Ins Z h0 t2 "java/lang/Object" true) :
    MetFree l own_y15 (head1 (Jvm.Cond.code own_y15 jdk_40_method_47_code 2 (some (.object "java/util/List")) :: ws) own_r25) (fun a U => a = #[(.ref a1)] ∧ Z.Warmed39 U.vm ∧ U.heap = h0) (fun _ _ _ _ _ => True) (fun _ U o U' => ∃ v L, o = .returned v ∧ Q_of3 Z a1 kS t0 t1 t2 h0 n0 v U'.heap L ∧ FrameEnd U o U' L own_r25.cells own_r25.slots) := by
  refine MetFree.of_bodySF (plainFor_of_name pn_33) hisR ?_
  intro p e s m args below meth c s₁ Bd hml0 hP hK
  obtain ⟨rfl, hZ, hh⟩ := hP
  have hx := Bd.exec
  have hby := Bd.bytes
  have hml : c.maxLocals = 2 := hml0
  have hown : s.vm.findClass "java/util/List" = some m.cls := findClass_of_methodNamed Bd.named
  have hnm := (name_of_methodNamed Bd.named Bd.method).1
  have X0 : Stand p l e own_r25 s m #[(.ref a1)] below meth c s₁ [] 0 0 := Stand.of_body Bd
  have e0 : s₁.heap = h0 := by rw [← hh, Bd.state]; rfl
  have N0 := Fr.nil n0
  have pre0 : ∀ t, Steps p.tables e below (s₁.setTop (mkF m 0 #[.val (.ref a1), .unset] [])) t → Steps p.tables e below (s₁.setTop (entryFrame m #[(.ref a1)] 2)) t := fun t k => castTop (ef_33 m a1) k
  obtain ⟨cl_a1, Ar_a1, -, S_a1, N_a1, H_a1, -⟩ := id V_a1
  obtain ⟨_, _, ⟨T2, L2, k2, n2⟩, -, X2, ⟨Lc2, hQ2, l2, y2, z2⟩, st2⟩ := Jvm.LawKit.callS X0 hx (y := own_y48) hown (mvT hZ (own_w hw 316 rfl)) (mvT hZ (own_w hw 317 rfl)) (mvT hZ (own_w hw 119 rfl)) (mvT hZ (own_w hw 318 rfl)) (by decide) (backOf (W := 0) (rm_lfa l Z a0 hw [] a1 kS t0 t1 t2 h0 n0 Z0 V_a1 I_t0 I_t1 I_t2) hZ (own_w hw 318 rfl) (own_w hw 119 rfl) (by decide) (by decide)) (g := (mkF m 60 #[.val (.ref a1), .unset] [(.ref a1)])) rfl (by rw [hml]; rfl) (argsL := [(.ref a1)]) (rest := []) (lenOf pd_33_25 rfl) rfl (Nat.le_of_eq rfl) (hb hby d33_60) (fun _ _ => ⟨rfl, e0, (by decide : 0 + 2 ≤ _), (by decide : 0 + 5 ≤ _)⟩)
  dsimp only [Pt.U, Pt.locs, Pt.cells, Pt.slots] at X2 l2 y2 z2 st2 hQ2
  subst l2 y2 z2
  obtain ⟨bL, eL, rfl, N2q, ExL, EaL, FaL, ArL⟩ := hQ2
  have N2 := Fr.app N0 N2q
  obtain ⟨fs, hr, hrun, hended, hW, hsame⟩ := X2.leave (v := some (.ref bL)) (fun h => by rw [Bd.returns] at h; cases h)
  refine ⟨_, _, pre0 _ ?_, hrun, hended, _, _, rfl, ?_, ⟨_, rfl⟩, hW, hsame.mono (by decide) (by decide)⟩
  · show Steps _ _ _ (s₁.setTop (mkF m 0 #[.val (.ref a1), .unset] [])) _
    refine XS.aloadN X0.here hx rfl (hb hby d33_0) rfl rfl ?_
    show Steps _ _ _ (s₁.setTop (mkF m 1 #[.val (.ref a1), .unset] [(.ref a1)])) _
    refine X0.arraylength hx (by rw [e0]; exact Ar_a1.1) (State.isArrayOf_alike hZ.alike Ar_a1.2.1) (g := (mkF m 1 #[.val (.ref a1), .unset] [(.ref a1)])) rfl rfl (hb hby d33_1) _ ?_
    rw [len_of S_a1 N_a1]
    show Steps _ _ _ (s₁.setTop (mkF m 2 #[.val (.ref a1), .unset] [(.int (3 : Int32))])) _
    refine XS.tswOut X0.here hx rfl (pc0 := 2) (pc' := 59) rfl (hb hby d33_2) rfl (by decide) (by decide) (by decide) ?_
    refine XS.aloadN X0.here hx rfl (hb hby d33_59) rfl rfl ?_
    show Steps _ _ _ (s₁.setTop (mkF m 60 #[.val (.ref a1), .unset] [(.ref a1)])) _
    refine st2 _ ?_
    show Steps _ _ _ (T2.setTop (mkF m 63 #[.val (.ref a1), .unset] [(.ref bL)])) _
    jvm_step X2.here [X2.here.top, hx, (hb hby d33_63), X2.method', Bd.returns, Value.isRef, FieldType.isReference]
    first | (intro acts; rw [hr _ acts rfl rfl rfl]) | rw [hr _ _ rfl rfl rfl]
    exact Steps.refl _
  · show Q_of3 Z a1 kS t0 t1 t2 h0 n0 _ T2.heap _
    exact ⟨bL, eL, rfl, N2, ExL, EaL, FaL, ArL⟩
theorem own_exttr {h h1 h2 : Heap} (E1 : Ext h h1) (E2 : Ext h1 h2) : Ext h h2 := ⟨Nat.le_trans E1.1 E2.1, fun a c q => E2.2 a c (E1.2 a c q)⟩
theorem d23_0 : decode jdk_56_method_3_code 0 = .ok (.aload_n 0, 1) := by decide +kernel
theorem d23_1 : decode jdk_56_method_3_code 1 = .ok (.instanceof 10, 3) := by decide +kernel
theorem d23_4 : decode jdk_56_method_3_code 4 = .ok (.ifCond .ne 22, 3) := by decide +kernel
theorem d23_7 : decode jdk_56_method_3_code 7 = .ok (.aload_n 0, 1) := by decide +kernel
theorem d23_8 : decode jdk_56_method_3_code 8 = .ok (.instanceof 12, 3) := by decide +kernel
theorem d23_11 : decode jdk_56_method_3_code 11 = .ok (.ifCond .eq 20, 3) := by decide +kernel
theorem d23_31 : decode jdk_56_method_3_code 31 = .ok (.aload_n 0, 1) := by decide +kernel
theorem d23_32 : decode jdk_56_method_3_code 32 = .ok (.invokeinterface 20 1, 5) := by decide +kernel
theorem d23_37 : decode jdk_56_method_3_code 37 = .ok (.ifCond .eq 7, 3) := by decide +kernel
theorem d23_40 : decode jdk_56_method_3_code 40 = .ok (.invokestatic 26, 3) := by decide +kernel
theorem d23_43 : decode jdk_56_method_3_code 43 = .ok (.areturn, 1) := by decide +kernel
theorem pn_23 : plainName "java/util/ImmutableCollections" = true := by first | (simp [plainName, overriddenIn]; done) | decide +kernel
theorem pd_23_17 : parseMethodDescriptor "()Z" = some ⟨[], some .boolean⟩ := by decide +kernel
theorem pd_23_18 : parseMethodDescriptor "()Ljava/util/List;" = some ⟨[], some (.object "java/util/List")⟩ := by decide +kernel
theorem ef_23 (m : MethodId) (x0 : Addr) : entryFrame m #[(.ref x0)] 2 = mkF m 0 #[.val (.ref x0), .unset] [] := by first | (simp [entryFrame, mkF, argsToLocals, Value.category]; done) | rfl
def Q_lc0 (Z : State) (a1 : Addr) (wL : Addr) (h0 : Heap) (n0 : Nat) (v : Option Value) (h : Heap) (L : List Loc) : Prop := v = some (.ref wL) ∧ Fr n0 L ∧ h = h0
theorem rm_lc0 (l : Launch) (Z : State) (a0 : Array Value) (hw : ∀ d ∈ tables_1, d.before a0 Z = true) (ws : List Jvm.Cond) (a1 : Addr) (wL : Addr) (h0 : Heap) (n0 : Nat) (Z0 : n0 ≤ h0.size) (Ol : Old Z n0 h0) (S_EMPTY_LIST : Sta Z Z.heap "java/util/ImmutableCollections" "EMPTY_LIST" "Ljava/util/ImmutableCollections$ListN;" (.ref wL)) (E_a1 : Exa Z h0 a1 "java/util/ArrayList") (Fs_a1 : Fld Z h0 a1 "java/util/ArrayList" "size" "I" (.int (0 : Int32))) :
    MetFree l own_y6 (head1 (Jvm.Cond.code own_y6 jdk_56_method_3_code 2 (some (.object "java/util/List")) :: ws) own_r26) (fun a U => a = #[(.ref a1)] ∧ Z.Warmed39 U.vm ∧ U.heap = h0) (fun _ _ _ _ _ => True) (fun _ U o U' => ∃ v L, o = .returned v ∧ Q_lc0 Z a1 wL h0 n0 v U'.heap L ∧ FrameEnd U o U' L own_r26.cells own_r26.slots) := by
  refine MetFree.of_bodySF (plainFor_of_name pn_23) hisR ?_
  intro p e s m args below meth c s₁ Bd hml0 hP hK
  obtain ⟨rfl, hZ, hh⟩ := hP
  have hx := Bd.exec
  have hby := Bd.bytes
  have hml : c.maxLocals = 2 := hml0
  have hown : s.vm.findClass "java/util/ImmutableCollections" = some m.cls := findClass_of_methodNamed Bd.named
  have hnm := (name_of_methodNamed Bd.named Bd.method).1
  have X0 : Stand p l e own_r26 s m #[(.ref a1)] below meth c s₁ [] 0 0 := Stand.of_body Bd
  have e0 : s₁.heap = h0 := by rw [← hh, Bd.state]; rfl
  have N0 := Fr.nil n0
  have pre0 : ∀ t, Steps p.tables e below (s₁.setTop (mkF m 0 #[.val (.ref a1), .unset] [])) t → Steps p.tables e below (s₁.setTop (entryFrame m #[(.ref a1)] 2)) t := fun t k => castTop (ef_23 m a1) k
  obtain ⟨T2, X2, e2, st2⟩ := instNo X0 hx hZ hown (own_w hw 143 rfl) e0 E_a1 (own_noinst (own_w hw 27 rfl) (own_w hw 144 rfl) (own_w hw 145 rfl) (own_w hw 146 rfl) (own_w hw 147 rfl) (own_w hw 224 rfl) (by decide) (by decide) (by decide) (by decide)) (g := (mkF m 1 #[.val (.ref a1), .unset] [(.ref a1)])) rfl rfl (hb hby d23_1)
  obtain ⟨T3, X3, e3, st3⟩ := instNo X2 hx hZ hown (own_w hw 148 rfl) e2 E_a1 (own_noinst (own_w hw 27 rfl) (own_w hw 144 rfl) (own_w hw 145 rfl) (own_w hw 146 rfl) (own_w hw 147 rfl) (own_w hw 321 rfl) (by decide) (by decide) (by decide) (by decide)) (g := (mkF m 8 #[.val (.ref a1), .unset] [(.ref a1)])) rfl rfl (hb hby d23_8)
  obtain ⟨cq4, kq4, q4a, q4b, q4c⟩ := isOf hZ e3 E_a1
  obtain ⟨_, _, ⟨T4, L4, k4, n4⟩, -, X4, ⟨Lc4, hQ4, l4, y4, z4⟩, st4⟩ := X3.interfaceBack hx (xi := own_y32) (y := own_y18) hown (mvT hZ (own_w hw 149 rfl)) (mvT hZ (own_w hw 150 rfl)) (mvT hZ (own_w hw 151 rfl)) (mvT hZ (own_w hw 152 rfl)) (mvT hZ (own_w hw 153 rfl)) (mvT hZ (own_w hw 154 rfl)) (mvT hZ (own_w hw 155 rfl)) (mvT hZ (own_w hw 156 rfl)) (by decide) (backOf (W := 0) (rm_isE l Z a0 hw [] a1  h0 n0 Z0 Fs_a1) hZ (own_w hw 157 rfl) (own_w hw 28 rfl) (by decide) (by decide)) q4a q4b q4c (g := (mkF m 32 #[.val (.ref a1), .unset] [(.ref a1)])) rfl (by rw [hml]; rfl) (Steps.refl _) (argsL := []) (rest := []) (lenOf pd_23_17 rfl) rfl (Nat.le_of_eq rfl) (hb hby d23_32) (fun _ _ => ⟨rfl, e3, (by decide : 0 + 0 ≤ _), (by decide : 0 + 0 ≤ _)⟩)
  dsimp only [Pt.U, Pt.locs, Pt.cells, Pt.slots] at X4 l4 y4 z4 st4 hQ4
  subst l4 y4 z4
  obtain ⟨rfl, N4q, K4⟩ := hQ4
  have N4 := Fr.app N0 N4q
  obtain ⟨_, _, ⟨T5, L5, k5, n5⟩, -, X5, ⟨Lc5, hQ5, l5, y5, z5⟩, st5⟩ := Jvm.LawKit.callS X4 hx (y := own_y43) hown (mvT hZ (own_w hw 158 rfl)) (mvT hZ (own_w hw 159 rfl)) (mvT hZ (own_w hw 138 rfl)) (mvT hZ (own_w hw 160 rfl)) (by decide) (backOf (W := 0) (rm_lof l Z a0 hw []  wL h0 n0 Z0 Ol S_EMPTY_LIST) hZ (own_w hw 160 rfl) (own_w hw 138 rfl) (by decide) (by decide)) (g := (mkF m 40 #[.val (.ref a1), .unset] [])) rfl (by rw [hml]; rfl) (argsL := []) (rest := []) (lenOf pd_23_18 rfl) rfl (Nat.le_of_eq rfl) (hb hby d23_40) (fun _ _ => ⟨rfl, K4, (by decide : 0 + 0 ≤ _), (by decide : 0 + 0 ≤ _)⟩)
  dsimp only [Pt.U, Pt.locs, Pt.cells, Pt.slots] at X5 l5 y5 z5 st5 hQ5
  subst l5 y5 z5
  obtain ⟨rfl, N5q, K5⟩ := hQ5
  have N5 := Fr.app N4 N5q
  obtain ⟨fs, hr, hrun, hended, hW, hsame⟩ := X5.leave (v := some (.ref wL)) (fun h => by rw [Bd.returns] at h; cases h)
  refine ⟨_, _, pre0 _ ?_, hrun, hended, _, _, rfl, ?_, ⟨_, rfl⟩, hW, hsame.mono (by decide) (by decide)⟩
  · show Steps _ _ _ (s₁.setTop (mkF m 0 #[.val (.ref a1), .unset] [])) _
    refine XS.aloadN X0.here hx rfl (hb hby d23_0) rfl rfl ?_
    show Steps _ _ _ (s₁.setTop (mkF m 1 #[.val (.ref a1), .unset] [(.ref a1)])) _
    refine st2 _ ?_
    show Steps _ _ _ (T2.setTop (mkF m 4 #[.val (.ref a1), .unset] [(.int (0 : Int32))])) _
    refine XS.ifNo X2.here hx rfl (hb hby d23_4) rfl ((if0 _ _).trans (teq (by decide : (0 : Int32) = (0 : Int32))).2) ?_
    refine XS.aloadN X2.here hx rfl (hb hby d23_7) rfl rfl ?_
    show Steps _ _ _ (T2.setTop (mkF m 8 #[.val (.ref a1), .unset] [(.ref a1)])) _
    refine st3 _ ?_
    show Steps _ _ _ (T3.setTop (mkF m 11 #[.val (.ref a1), .unset] [(.int (0 : Int32))])) _
    refine XS.ifYes X3.here hx rfl (pc0 := 11) (pc' := 31) rfl (hb hby d23_11) rfl ((if0 _ _).trans (teq (by decide : (0 : Int32) = (0 : Int32))).1) (by decide) (by decide) ?_
    refine XS.aloadN X3.here hx rfl (hb hby d23_31) rfl rfl ?_
    show Steps _ _ _ (T3.setTop (mkF m 32 #[.val (.ref a1), .unset] [(.ref a1)])) _
    refine st4.trans ?_
    show Steps _ _ _ (T4.setTop (mkF m 37 #[.val (.ref a1), .unset] [(.int (1 : Int32))])) _
    refine XS.ifNo X4.here hx rfl (hb hby d23_37) rfl ((if0 _ _).trans (feq (by decide : ¬ ((1 : Int32) = (0 : Int32)))).1) ?_
    show Steps _ _ _ (T4.setTop (mkF m 40 #[.val (.ref a1), .unset] [])) _
    refine st5 _ ?_
    show Steps _ _ _ (T5.setTop (mkF m 43 #[.val (.ref a1), .unset] [(.ref wL)])) _
    jvm_step X5.here [X5.here.top, hx, (hb hby d23_43), X5.method', Bd.returns, Value.isRef, FieldType.isReference]
    first | (intro acts; rw [hr _ acts rfl rfl rfl]) | rw [hr _ _ rfl rfl rfl]
    exact Steps.refl _
  · show Q_lc0 Z a1 wL h0 n0 _ T5.heap _
    rw [K5]
    exact ⟨rfl, N5, rfl⟩
theorem d22_0 : decode jdk_40_method_48_code 0 = .ok (.aload_n 0, 1) := by decide +kernel
theorem d22_1 : decode jdk_40_method_48_code 1 = .ok (.invokestatic 112, 3) := by decide +kernel
theorem d22_4 : decode jdk_40_method_48_code 4 = .ok (.areturn, 1) := by decide +kernel
theorem pn_22 : plainName "java/util/List" = true := by first | (simp [plainName, overriddenIn]; done) | decide +kernel
theorem pd_22_16 : parseMethodDescriptor "(Ljava/util/Collection;)Ljava/util/List;" = some ⟨[(.object "java/util/Collection")], some (.object "java/util/List")⟩ := by decide +kernel
theorem ef_22 (m : MethodId) (x0 : Addr) : entryFrame m #[(.ref x0)] 1 = mkF m 0 #[.val (.ref x0)] [] := by first | (simp [entryFrame, mkF, argsToLocals, Value.category]; done) | rfl
def Q_cof0 (Z : State) (a1 : Addr) (wL : Addr) (h0 : Heap) (n0 : Nat) (v : Option Value) (h : Heap) (L : List Loc) : Prop := v = some (.ref wL) ∧ Fr n0 L ∧ h = h0
theorem rm_cof0 (l : Launch) (Z : State) (a0 : Array Value) (hw : ∀ d ∈ tables_1, d.before a0 Z = true) (ws : List Jvm.Cond) (a1 : Addr) (wL : Addr) (h0 : Heap) (n0 : Nat) (Z0 : n0 ≤ h0.size) (Ol : Old Z n0 h0) (S_EMPTY_LIST : Sta Z Z.heap "java/util/ImmutableCollections" "EMPTY_LIST" "Ljava/util/ImmutableCollections$ListN;" (.ref wL)) (E_a1 : Exa Z h0 a1 "java/util/ArrayList") (Fs_a1 : Fld Z h0 a1 "java/util/ArrayList" "size" "I" (.int (0 : Int32))) :
    MetFree l own_y5 (head1 (Jvm.Cond.code own_y5 jdk_40_method_48_code 1 (some (.object "java/util/List")) :: ws) own_r27) (fun a U => a = #[(.ref a1)] ∧ Z.Warmed39 U.vm ∧ U.heap = h0) (fun _ _ _ _ _ => True) (fun _ U o U' => ∃ v L, o = .returned v ∧ Q_cof0 Z a1 wL h0 n0 v U'.heap L ∧ FrameEnd U o U' L own_r27.cells own_r27.slots) := by
  refine MetFree.of_bodySF (plainFor_of_name pn_22) hisR ?_
  intro p e s m args below meth c s₁ Bd hml0 hP hK
  obtain ⟨rfl, hZ, hh⟩ := hP
  have hx := Bd.exec
  have hby := Bd.bytes
  have hml : c.maxLocals = 1 := hml0
  have hown : s.vm.findClass "java/util/List" = some m.cls := findClass_of_methodNamed Bd.named
  have hnm := (name_of_methodNamed Bd.named Bd.method).1
  have X0 : Stand p l e own_r27 s m #[(.ref a1)] below meth c s₁ [] 0 0 := Stand.of_body Bd
  have e0 : s₁.heap = h0 := by rw [← hh, Bd.state]; rfl
  have N0 := Fr.nil n0
  have pre0 : ∀ t, Steps p.tables e below (s₁.setTop (mkF m 0 #[.val (.ref a1)] [])) t → Steps p.tables e below (s₁.setTop (entryFrame m #[(.ref a1)] 1)) t := fun t k => castTop (ef_22 m a1) k
  obtain ⟨_, _, ⟨T2, L2, k2, n2⟩, -, X2, ⟨Lc2, hQ2, l2, y2, z2⟩, st2⟩ := Jvm.LawKit.callS X0 hx (y := own_y6) hown (mvT hZ (own_w hw 140 rfl)) (mvT hZ (own_w hw 141 rfl)) (mvT hZ (own_w hw 119 rfl)) (mvT hZ (own_w hw 142 rfl)) (by decide) (backOf (W := 0) (rm_lc0 l Z a0 hw [] a1 wL h0 n0 Z0 Ol S_EMPTY_LIST E_a1 Fs_a1) hZ (own_w hw 142 rfl) (own_w hw 119 rfl) (by decide) (by decide)) (g := (mkF m 1 #[.val (.ref a1)] [(.ref a1)])) rfl (by rw [hml]; rfl) (argsL := [(.ref a1)]) (rest := []) (lenOf pd_22_16 rfl) rfl (Nat.le_of_eq rfl) (hb hby d22_1) (fun _ _ => ⟨rfl, e0, (by decide : 0 + 0 ≤ _), (by decide : 0 + 0 ≤ _)⟩)
  dsimp only [Pt.U, Pt.locs, Pt.cells, Pt.slots] at X2 l2 y2 z2 st2 hQ2
  subst l2 y2 z2
  obtain ⟨rfl, N2q, K2⟩ := hQ2
  have N2 := Fr.app N0 N2q
  obtain ⟨fs, hr, hrun, hended, hW, hsame⟩ := X2.leave (v := some (.ref wL)) (fun h => by rw [Bd.returns] at h; cases h)
  refine ⟨_, _, pre0 _ ?_, hrun, hended, _, _, rfl, ?_, ⟨_, rfl⟩, hW, hsame.mono (by decide) (by decide)⟩
  · show Steps _ _ _ (s₁.setTop (mkF m 0 #[.val (.ref a1)] [])) _
    refine XS.aloadN X0.here hx rfl (hb hby d22_0) rfl rfl ?_
    show Steps _ _ _ (s₁.setTop (mkF m 1 #[.val (.ref a1)] [(.ref a1)])) _
    refine st2 _ ?_
    show Steps _ _ _ (T2.setTop (mkF m 4 #[.val (.ref a1)] [(.ref wL)])) _
    jvm_step X2.here [X2.here.top, hx, (hb hby d22_4), X2.method', Bd.returns, Value.isRef, FieldType.isReference]
    first | (intro acts; rw [hr _ acts rfl rfl rfl]) | rw [hr _ _ rfl rfl rfl]
    exact Steps.refl _
  · show Q_cof0 Z a1 wL h0 n0 _ T2.heap _
    rw [K2]
    exact ⟨rfl, N2, rfl⟩
theorem d23_44 : decode jdk_56_method_3_code 44 = .ok (.aload_n 0, 1) := by decide +kernel
theorem d23_45 : decode jdk_56_method_3_code 45 = .ok (.invokeinterface 30 1, 5) := by decide +kernel
theorem d23_50 : decode jdk_56_method_3_code 50 = .ok (.invokestatic 34, 3) := by decide +kernel
theorem d23_53 : decode jdk_56_method_3_code 53 = .ok (.areturn, 1) := by decide +kernel
theorem pd_23_9 : parseMethodDescriptor "()[Ljava/lang/Object;" = some ⟨[], some (.array (.object "java/lang/Object"))⟩ := by decide +kernel
theorem pd_23_25 : parseMethodDescriptor "([Ljava/lang/Object;)Ljava/util/List;" = some ⟨[(.array (.object "java/lang/Object"))], some (.object "java/util/List")⟩ := by decide +kernel
def Q_lc1 (Z : State) (a1 : Addr) (kA : ClassId) (vs : List Value) (t0 : Addr) (aE : Addr) (aM : Addr) (wO : Addr) (h0 : Heap) (n0 : Nat) (v : Option Value) (h : Heap) (L : List Loc) : Prop := ∃ b, v = some (.ref b) ∧ Fr n0 L ∧ Ext h0 h ∧ Exa Z h b "java/util/ImmutableCollections$List12" ∧ Fld Z h b "java/util/ImmutableCollections$List12" "e1" "Ljava/lang/Object;" (.ref wO)
theorem rm_lc1 (l : Launch) (Z : State) (a0 : Array Value) (hw : ∀ d ∈ tables_1, d.before a0 Z = true) (ws : List Jvm.Cond) (a1 : Addr) (kA : ClassId) (vs : List Value) (t0 : Addr) (aE : Addr) (aM : Addr) (wO : Addr) (h0 : Heap) (n0 : Nat) (Z0 : n0 ≤ h0.size) (Ol : Old Z n0 h0) (S_EMPTY : Sta Z Z.heap "java/util/ImmutableCollections" "EMPTY" "Ljava/lang/Object;" (.ref wO)) (E_a1 : Exa Z h0 a1 "java/util/ArrayList") (Fe_a1 : Fld Z h0 a1 "java/util/ArrayList" "elementData" "[Ljava/lang/Object;" (.ref aE)) (Fs_a1 : Fld Z h0 a1 "java/util/ArrayList" "size" "I" (.int (1 : Int32))) (V_aE : Arv Z h0 aE kA (.object "java/lang/Object") (10 : Int32) vs .null) (E_aE : Exa Z h0 aE "[Ljava/lang/Object;") (Mr : own_mir Z "[Ljava/lang/Object;" aM) (hv0 : vs.getD 0 .null = .ref t0) (I_t0 : Ins Z h0 t0 "java/lang/Object" true) :
    MetFree l own_y6 (head1 (Jvm.Cond.code own_y6 jdk_56_method_3_code 2 (some (.object "java/util/List")) :: ws) own_r28) (fun a U => a = #[(.ref a1)] ∧ Z.Warmed39 U.vm ∧ U.heap = h0) (fun _ _ _ _ _ => True) (fun _ U o U' => ∃ v L, o = .returned v ∧ Q_lc1 Z a1 kA vs t0 aE aM wO h0 n0 v U'.heap L ∧ FrameEnd U o U' L own_r28.cells own_r28.slots) := by
  refine MetFree.of_bodySF (plainFor_of_name pn_23) hisR ?_
  intro p e s m args below meth c s₁ Bd hml0 hP hK
  obtain ⟨rfl, hZ, hh⟩ := hP
  have hx := Bd.exec
  have hby := Bd.bytes
  have hml : c.maxLocals = 2 := hml0
  have hown : s.vm.findClass "java/util/ImmutableCollections" = some m.cls := findClass_of_methodNamed Bd.named
  have hnm := (name_of_methodNamed Bd.named Bd.method).1
  have X0 : Stand p l e own_r28 s m #[(.ref a1)] below meth c s₁ [] 0 0 := Stand.of_body Bd
  have e0 : s₁.heap = h0 := by rw [← hh, Bd.state]; rfl
  have N0 := Fr.nil n0
  have pre0 : ∀ t, Steps p.tables e below (s₁.setTop (mkF m 0 #[.val (.ref a1), .unset] [])) t → Steps p.tables e below (s₁.setTop (entryFrame m #[(.ref a1)] 2)) t := fun t k => castTop (ef_23 m a1) k
  obtain ⟨T2, X2, e2, st2⟩ := instNo X0 hx hZ hown (own_w hw 143 rfl) e0 E_a1 (own_noinst (own_w hw 27 rfl) (own_w hw 144 rfl) (own_w hw 145 rfl) (own_w hw 146 rfl) (own_w hw 147 rfl) (own_w hw 224 rfl) (by decide) (by decide) (by decide) (by decide)) (g := (mkF m 1 #[.val (.ref a1), .unset] [(.ref a1)])) rfl rfl (hb hby d23_1)
  obtain ⟨T3, X3, e3, st3⟩ := instNo X2 hx hZ hown (own_w hw 148 rfl) e2 E_a1 (own_noinst (own_w hw 27 rfl) (own_w hw 144 rfl) (own_w hw 145 rfl) (own_w hw 146 rfl) (own_w hw 147 rfl) (own_w hw 321 rfl) (by decide) (by decide) (by decide) (by decide)) (g := (mkF m 8 #[.val (.ref a1), .unset] [(.ref a1)])) rfl rfl (hb hby d23_8)
  obtain ⟨cq4, kq4, q4a, q4b, q4c⟩ := isOf hZ e3 E_a1
  obtain ⟨_, _, ⟨T4, L4, k4, n4⟩, -, X4, ⟨Lc4, hQ4, l4, y4, z4⟩, st4⟩ := X3.interfaceBack hx (xi := own_y32) (y := own_y18) hown (mvT hZ (own_w hw 149 rfl)) (mvT hZ (own_w hw 150 rfl)) (mvT hZ (own_w hw 151 rfl)) (mvT hZ (own_w hw 152 rfl)) (mvT hZ (own_w hw 153 rfl)) (mvT hZ (own_w hw 154 rfl)) (mvT hZ (own_w hw 155 rfl)) (mvT hZ (own_w hw 156 rfl)) (by decide) (backOf (W := 0) (rm_isN l Z a0 hw [] a1 (1 : Int32) h0 n0 Z0 Fs_a1 (by decide)) hZ (own_w hw 157 rfl) (own_w hw 28 rfl) (by decide) (by decide)) q4a q4b q4c (g := (mkF m 32 #[.val (.ref a1), .unset] [(.ref a1)])) rfl (by rw [hml]; rfl) (Steps.refl _) (argsL := []) (rest := []) (lenOf pd_23_17 rfl) rfl (Nat.le_of_eq rfl) (hb hby d23_32) (fun _ _ => ⟨rfl, e3, (by decide : 0 + 0 ≤ _), (by decide : 0 + 0 ≤ _)⟩)
  dsimp only [Pt.U, Pt.locs, Pt.cells, Pt.slots] at X4 l4 y4 z4 st4 hQ4
  subst l4 y4 z4
  obtain ⟨rfl, N4q, K4⟩ := hQ4
  have N4 := Fr.app N0 N4q
  obtain ⟨cq5, kq5, q5a, q5b, q5c⟩ := isOf hZ K4 E_a1
  obtain ⟨_, _, ⟨T5, L5, k5, n5⟩, -, X5, ⟨Lc5, hQ5, l5, y5, z5⟩, st5⟩ := X4.interfaceBack hx (xi := own_y49) (y := own_y14) hown (mvT hZ (own_w hw 190 rfl)) (mvT hZ (own_w hw 191 rfl)) (mvT hZ (own_w hw 192 rfl)) (mvT hZ (own_w hw 193 rfl)) (mvT hZ (own_w hw 194 rfl)) (mvT hZ (own_w hw 195 rfl)) (mvT hZ (own_w hw 196 rfl)) (mvT hZ (own_w hw 156 rfl)) (by decide) (backOf (W := 0) (rm_toA1 l Z a0 hw [] a1 kA vs t0 aE aM h0 n0 Z0 Fe_a1 Fs_a1 V_aE E_aE Mr hv0 I_t0) hZ (own_w hw 197 rfl) (own_w hw 28 rfl) (by decide) (by decide)) q5a q5b q5c (g := (mkF m 45 #[.val (.ref a1), .unset] [(.ref a1)])) rfl (by rw [hml]; rfl) (Steps.refl _) (argsL := []) (rest := []) (lenOf pd_23_9 rfl) rfl (Nat.le_of_eq rfl) (hb hby d23_45) (fun _ _ => ⟨rfl, K4, (by decide : 0 + 1 ≤ _), (by decide : 0 + 1 ≤ _)⟩)
  dsimp only [Pt.U, Pt.locs, Pt.cells, Pt.slots] at X5 l5 y5 z5 st5 hQ5
  subst l5 y5 z5
  obtain ⟨bC, kC, rfl, N5q, ExC, Vc, Oc, gc, sc⟩ := hQ5
  have N5 := Fr.app N4 N5q
  obtain ⟨_, _, ⟨T6, L6, k6, n6⟩, -, X6, ⟨Lc6, hQ6, l6, y6, z6⟩, st6⟩ := Jvm.LawKit.callS X5 hx (y := own_y15) hown (mvT hZ (own_w hw 220 rfl)) (mvT hZ (own_w hw 221 rfl)) (mvT hZ (own_w hw 138 rfl)) (mvT hZ (own_w hw 222 rfl)) (by decide) (backOf (W := 0) (rm_of1 l Z a0 hw [] bC kC t0 wO T5.heap n0 (Nat.le_trans Z0 ExC.1) (Ol.ext ExC) S_EMPTY Vc (I_t0.ext ExC)) hZ (own_w hw 222 rfl) (own_w hw 138 rfl) (by decide) (by decide)) (g := (mkF m 50 #[.val (.ref a1), .unset] [(.ref bC)])) rfl (by rw [hml]; rfl) (argsL := [(.ref bC)]) (rest := []) (lenOf pd_23_25 rfl) rfl (Nat.le_of_eq rfl) (hb hby d23_50) (fun _ _ => ⟨rfl, rfl, (by decide : 1 + 1 ≤ _), (by decide : 1 + 2 ≤ _)⟩)
  dsimp only [Pt.U, Pt.locs, Pt.cells, Pt.slots] at X6 l6 y6 z6 st6 hQ6
  subst l6 y6 z6
  obtain ⟨bL, rfl, N6q, ExL, EaL, F1L⟩ := hQ6
  have N6 := Fr.app N5 N6q
  obtain ⟨fs, hr, hrun, hended, hW, hsame⟩ := X6.leave (v := some (.ref bL)) (fun h => by rw [Bd.returns] at h; cases h)
  refine ⟨_, _, pre0 _ ?_, hrun, hended, _, _, rfl, ?_, ⟨_, rfl⟩, hW, hsame.mono (by decide) (by decide)⟩
  · show Steps _ _ _ (s₁.setTop (mkF m 0 #[.val (.ref a1), .unset] [])) _
    refine XS.aloadN X0.here hx rfl (hb hby d23_0) rfl rfl ?_
    show Steps _ _ _ (s₁.setTop (mkF m 1 #[.val (.ref a1), .unset] [(.ref a1)])) _
    refine st2 _ ?_
    show Steps _ _ _ (T2.setTop (mkF m 4 #[.val (.ref a1), .unset] [(.int (0 : Int32))])) _
    refine XS.ifNo X2.here hx rfl (hb hby d23_4) rfl ((if0 _ _).trans (teq (by decide : (0 : Int32) = (0 : Int32))).2) ?_
    refine XS.aloadN X2.here hx rfl (hb hby d23_7) rfl rfl ?_
    show Steps _ _ _ (T2.setTop (mkF m 8 #[.val (.ref a1), .unset] [(.ref a1)])) _
    refine st3 _ ?_
    show Steps _ _ _ (T3.setTop (mkF m 11 #[.val (.ref a1), .unset] [(.int (0 : Int32))])) _
    refine XS.ifYes X3.here hx rfl (pc0 := 11) (pc' := 31) rfl (hb hby d23_11) rfl ((if0 _ _).trans (teq (by decide : (0 : Int32) = (0 : Int32))).1) (by decide) (by decide) ?_
    refine XS.aloadN X3.here hx rfl (hb hby d23_31) rfl rfl ?_
    show Steps _ _ _ (T3.setTop (mkF m 32 #[.val (.ref a1), .unset] [(.ref a1)])) _
    refine st4.trans ?_
    show Steps _ _ _ (T4.setTop (mkF m 37 #[.val (.ref a1), .unset] [(.int (0 : Int32))])) _
    refine XS.ifYes X4.here hx rfl (pc0 := 37) (pc' := 44) rfl (hb hby d23_37) rfl ((if0 _ _).trans (teq (by decide : (0 : Int32) = (0 : Int32))).1) (by decide) (by decide) ?_
    refine XS.aloadN X4.here hx rfl (hb hby d23_44) rfl rfl ?_
    show Steps _ _ _ (T4.setTop (mkF m 45 #[.val (.ref a1), .unset] [(.ref a1)])) _
    refine st5.trans ?_
    show Steps _ _ _ (T5.setTop (mkF m 50 #[.val (.ref a1), .unset] [(.ref bC)])) _
    refine st6 _ ?_
    show Steps _ _ _ (T6.setTop (mkF m 53 #[.val (.ref a1), .unset] [(.ref bL)])) _
    jvm_step X6.here [X6.here.top, hx, (hb hby d23_53), X6.method', Bd.returns, Value.isRef, FieldType.isReference]
    first | (intro acts; rw [hr _ acts rfl rfl rfl]) | rw [hr _ _ rfl rfl rfl]
    exact Steps.refl _
  · show Q_lc1 Z a1 kA vs t0 aE aM wO h0 n0 _ T6.heap _
    exact ⟨bL, rfl, N6, own_exttr ExC ExL, EaL, F1L⟩
def Q_cof1 (Z : State) (a1 : Addr) (kA : ClassId) (vs : List Value) (t0 : Addr) (aE : Addr) (aM : Addr) (wO : Addr) (h0 : Heap) (n0 : Nat) (v : Option Value) (h : Heap) (L : List Loc) : Prop := ∃ b, v = some (.ref b) ∧ Fr n0 L ∧ Ext h0 h ∧ Exa Z h b "java/util/ImmutableCollections$List12" ∧ Fld Z h b "java/util/ImmutableCollections$List12" "e1" "Ljava/lang/Object;" (.ref wO)
theorem rm_cof1 (l : Launch) (Z : State) (a0 : Array Value) (hw : ∀ d ∈ tables_1, d.before a0 Z = true) (ws : List Jvm.Cond) (a1 : Addr) (kA : ClassId) (vs : List Value) (t0 : Addr) (aE : Addr) (aM : Addr) (wO : Addr) (h0 : Heap) (n0 : Nat) (Z0 : n0 ≤ h0.size) (Ol : Old Z n0 h0) (S_EMPTY : Sta Z Z.heap "java/util/ImmutableCollections" "EMPTY" "Ljava/lang/Object;" (.ref wO)) (E_a1 : Exa Z h0 a1 "java/util/ArrayList") (Fe_a1 : Fld Z h0 a1 "java/util/ArrayList" "elementData" "[Ljava/lang/Object;" (.ref aE)) (Fs_a1 : Fld Z h0 a1 "java/util/ArrayList" "size" "I" (.int (1 : Int32))) (V_aE : Arv Z h0 aE kA (.object "java/lang/Object") (10 : Int32) vs .null) (E_aE : Exa Z h0 aE "[Ljava/lang/Object;") (Mr : own_mir Z "[Ljava/lang/Object;" aM) (hv0 : vs.getD 0 .null = .ref t0) (I_t0 : Ins Z h0 t0 "java/lang/Object" true) :
    MetFree l own_y5 (head1 (Jvm.Cond.code own_y5 jdk_40_method_48_code 1 (some (.object "java/util/List")) :: ws) own_r29) (fun a U => a = #[(.ref a1)] ∧ Z.Warmed39 U.vm ∧ U.heap = h0) (fun _ _ _ _ _ => True) (fun _ U o U' => ∃ v L, o = .returned v ∧ Q_cof1 Z a1 kA vs t0 aE aM wO h0 n0 v U'.heap L ∧ FrameEnd U o U' L own_r29.cells own_r29.slots) := by
  refine MetFree.of_bodySF (plainFor_of_name pn_22) hisR ?_
  intro p e s m args below meth c s₁ Bd hml0 hP hK
  obtain ⟨rfl, hZ, hh⟩ := hP
  have hx := Bd.exec
  have hby := Bd.bytes
  have hml : c.maxLocals = 1 := hml0
  have hown : s.vm.findClass "java/util/List" = some m.cls := findClass_of_methodNamed Bd.named
  have hnm := (name_of_methodNamed Bd.named Bd.method).1
  have X0 : Stand p l e own_r29 s m #[(.ref a1)] below meth c s₁ [] 0 0 := Stand.of_body Bd
  have e0 : s₁.heap = h0 := by rw [← hh, Bd.state]; rfl
  have N0 := Fr.nil n0
  have pre0 : ∀ t, Steps p.tables e below (s₁.setTop (mkF m 0 #[.val (.ref a1)] [])) t → Steps p.tables e below (s₁.setTop (entryFrame m #[(.ref a1)] 1)) t := fun t k => castTop (ef_22 m a1) k
  obtain ⟨_, _, ⟨T2, L2, k2, n2⟩, -, X2, ⟨Lc2, hQ2, l2, y2, z2⟩, st2⟩ := Jvm.LawKit.callS X0 hx (y := own_y6) hown (mvT hZ (own_w hw 140 rfl)) (mvT hZ (own_w hw 141 rfl)) (mvT hZ (own_w hw 119 rfl)) (mvT hZ (own_w hw 142 rfl)) (by decide) (backOf (W := 0) (rm_lc1 l Z a0 hw [] a1 kA vs t0 aE aM wO h0 n0 Z0 Ol S_EMPTY E_a1 Fe_a1 Fs_a1 V_aE E_aE Mr hv0 I_t0) hZ (own_w hw 142 rfl) (own_w hw 119 rfl) (by decide) (by decide)) (g := (mkF m 1 #[.val (.ref a1)] [(.ref a1)])) rfl (by rw [hml]; rfl) (argsL := [(.ref a1)]) (rest := []) (lenOf pd_22_16 rfl) rfl (Nat.le_of_eq rfl) (hb hby d22_1) (fun _ _ => ⟨rfl, e0, (by decide : 0 + 2 ≤ _), (by decide : 0 + 3 ≤ _)⟩)
  dsimp only [Pt.U, Pt.locs, Pt.cells, Pt.slots] at X2 l2 y2 z2 st2 hQ2
  subst l2 y2 z2
  obtain ⟨bL, rfl, N2q, ExL, EaL, F1L⟩ := hQ2
  have N2 := Fr.app N0 N2q
  obtain ⟨fs, hr, hrun, hended, hW, hsame⟩ := X2.leave (v := some (.ref bL)) (fun h => by rw [Bd.returns] at h; cases h)
  refine ⟨_, _, pre0 _ ?_, hrun, hended, _, _, rfl, ?_, ⟨_, rfl⟩, hW, hsame.mono (by decide) (by decide)⟩
  · show Steps _ _ _ (s₁.setTop (mkF m 0 #[.val (.ref a1)] [])) _
    refine XS.aloadN X0.here hx rfl (hb hby d22_0) rfl rfl ?_
    show Steps _ _ _ (s₁.setTop (mkF m 1 #[.val (.ref a1)] [(.ref a1)])) _
    refine st2 _ ?_
    show Steps _ _ _ (T2.setTop (mkF m 4 #[.val (.ref a1)] [(.ref bL)])) _
    jvm_step X2.here [X2.here.top, hx, (hb hby d22_4), X2.method', Bd.returns, Value.isRef, FieldType.isReference]
    first | (intro acts; rw [hr _ acts rfl rfl rfl]) | rw [hr _ _ rfl rfl rfl]
    exact Steps.refl _
  · show Q_cof1 Z a1 kA vs t0 aE aM wO h0 n0 _ T2.heap _
    exact ⟨bL, rfl, N2, ExL, EaL, F1L⟩
def Q_lc2 (Z : State) (a1 : Addr) (kA : ClassId) (vs : List Value) (t0 : Addr) (t1 : Addr) (aE : Addr) (aM : Addr) (h0 : Heap) (n0 : Nat) (v : Option Value) (h : Heap) (L : List Loc) : Prop := ∃ b, v = some (.ref b) ∧ Fr n0 L ∧ Ext h0 h ∧ Exa Z h b "java/util/ImmutableCollections$List12" ∧ Fld Z h b "java/util/ImmutableCollections$List12" "e1" "Ljava/lang/Object;" (.ref t1)
theorem rm_lc2 (l : Launch) (Z : State) (a0 : Array Value) (hw : ∀ d ∈ tables_1, d.before a0 Z = true) (ws : List Jvm.Cond) (a1 : Addr) (kA : ClassId) (vs : List Value) (t0 : Addr) (t1 : Addr) (aE : Addr) (aM : Addr) (h0 : Heap) (n0 : Nat) (Z0 : n0 ≤ h0.size) (E_a1 : Exa Z h0 a1 "java/util/ArrayList") (Fe_a1 : Fld Z h0 a1 "java/util/ArrayList" "elementData" "[Ljava/lang/Object;" (.ref aE)) (Fs_a1 : Fld Z h0 a1 "java/util/ArrayList" "size" "I" (.int (2 : Int32))) (V_aE : Arv Z h0 aE kA (.object "java/lang/Object") (10 : Int32) vs .null) (E_aE : Exa Z h0 aE "[Ljava/lang/Object;") (Mr : own_mir Z "[Ljava/lang/Object;" aM) (hv0 : vs.getD 0 .null = .ref t0) (hv1 : vs.getD 1 .null = .ref t1) (I_t0 : Ins Z h0 t0 "java/lang/Object" true) (I_t1 : Ins Z h0 t1 "java/lang/Object" true) :
    MetFree l own_y6 (head1 (Jvm.Cond.code own_y6 jdk_56_method_3_code 2 (some (.object "java/util/List")) :: ws) own_r30) (fun a U => a = #[(.ref a1)] ∧ Z.Warmed39 U.vm ∧ U.heap = h0) (fun _ _ _ _ _ => True) (fun _ U o U' => ∃ v L, o = .returned v ∧ Q_lc2 Z a1 kA vs t0 t1 aE aM h0 n0 v U'.heap L ∧ FrameEnd U o U' L own_r30.cells own_r30.slots) := by
  refine MetFree.of_bodySF (plainFor_of_name pn_23) hisR ?_
  intro p e s m args below meth c s₁ Bd hml0 hP hK
  obtain ⟨rfl, hZ, hh⟩ := hP
  have hx := Bd.exec
  have hby := Bd.bytes
  have hml : c.maxLocals = 2 := hml0
  have hown : s.vm.findClass "java/util/ImmutableCollections" = some m.cls := findClass_of_methodNamed Bd.named
  have hnm := (name_of_methodNamed Bd.named Bd.method).1
  have X0 : Stand p l e own_r30 s m #[(.ref a1)] below meth c s₁ [] 0 0 := Stand.of_body Bd
  have e0 : s₁.heap = h0 := by rw [← hh, Bd.state]; rfl
  have N0 := Fr.nil n0
  have pre0 : ∀ t, Steps p.tables e below (s₁.setTop (mkF m 0 #[.val (.ref a1), .unset] [])) t → Steps p.tables e below (s₁.setTop (entryFrame m #[(.ref a1)] 2)) t := fun t k => castTop (ef_23 m a1) k
  obtain ⟨T2, X2, e2, st2⟩ := instNo X0 hx hZ hown (own_w hw 143 rfl) e0 E_a1 (own_noinst (own_w hw 27 rfl) (own_w hw 144 rfl) (own_w hw 145 rfl) (own_w hw 146 rfl) (own_w hw 147 rfl) (own_w hw 224 rfl) (by decide) (by decide) (by decide) (by decide)) (g := (mkF m 1 #[.val (.ref a1), .unset] [(.ref a1)])) rfl rfl (hb hby d23_1)
  obtain ⟨T3, X3, e3, st3⟩ := instNo X2 hx hZ hown (own_w hw 148 rfl) e2 E_a1 (own_noinst (own_w hw 27 rfl) (own_w hw 144 rfl) (own_w hw 145 rfl) (own_w hw 146 rfl) (own_w hw 147 rfl) (own_w hw 321 rfl) (by decide) (by decide) (by decide) (by decide)) (g := (mkF m 8 #[.val (.ref a1), .unset] [(.ref a1)])) rfl rfl (hb hby d23_8)
  obtain ⟨cq4, kq4, q4a, q4b, q4c⟩ := isOf hZ e3 E_a1
  obtain ⟨_, _, ⟨T4, L4, k4, n4⟩, -, X4, ⟨Lc4, hQ4, l4, y4, z4⟩, st4⟩ := X3.interfaceBack hx (xi := own_y32) (y := own_y18) hown (mvT hZ (own_w hw 149 rfl)) (mvT hZ (own_w hw 150 rfl)) (mvT hZ (own_w hw 151 rfl)) (mvT hZ (own_w hw 152 rfl)) (mvT hZ (own_w hw 153 rfl)) (mvT hZ (own_w hw 154 rfl)) (mvT hZ (own_w hw 155 rfl)) (mvT hZ (own_w hw 156 rfl)) (by decide) (backOf (W := 0) (rm_isN l Z a0 hw [] a1 (2 : Int32) h0 n0 Z0 Fs_a1 (by decide)) hZ (own_w hw 157 rfl) (own_w hw 28 rfl) (by decide) (by decide)) q4a q4b q4c (g := (mkF m 32 #[.val (.ref a1), .unset] [(.ref a1)])) rfl (by rw [hml]; rfl) (Steps.refl _) (argsL := []) (rest := []) (lenOf pd_23_17 rfl) rfl (Nat.le_of_eq rfl) (hb hby d23_32) (fun _ _ => ⟨rfl, e3, (by decide : 0 + 0 ≤ _), (by decide : 0 + 0 ≤ _)⟩)
  dsimp only [Pt.U, Pt.locs, Pt.cells, Pt.slots] at X4 l4 y4 z4 st4 hQ4
  subst l4 y4 z4
  obtain ⟨rfl, N4q, K4⟩ := hQ4
  have N4 := Fr.app N0 N4q
  obtain ⟨cq5, kq5, q5a, q5b, q5c⟩ := isOf hZ K4 E_a1
  obtain ⟨_, _, ⟨T5, L5, k5, n5⟩, -, X5, ⟨Lc5, hQ5, l5, y5, z5⟩, st5⟩ := X4.interfaceBack hx (xi := own_y49) (y := own_y14) hown (mvT hZ (own_w hw 190 rfl)) (mvT hZ (own_w hw 191 rfl)) (mvT hZ (own_w hw 192 rfl)) (mvT hZ (own_w hw 193 rfl)) (mvT hZ (own_w hw 194 rfl)) (mvT hZ (own_w hw 195 rfl)) (mvT hZ (own_w hw 196 rfl)) (mvT hZ (own_w hw 156 rfl)) (by decide) (backOf (W := 0) (rm_toA2 l Z a0 hw [] a1 kA vs t0 t1 aE aM h0 n0 Z0 Fe_a1 Fs_a1 V_aE E_aE Mr hv0 hv1 I_t0 I_t1) hZ (own_w hw 197 rfl) (own_w hw 28 rfl) (by decide) (by decide)) q5a q5b q5c (g := (mkF m 45 #[.val (.ref a1), .unset] [(.ref a1)])) rfl (by rw [hml]; rfl) (Steps.refl _) (argsL := []) (rest := []) (lenOf pd_23_9 rfl) rfl (Nat.le_of_eq rfl) (hb hby d23_45) (fun _ _ => ⟨rfl, K4, (by decide : 0 + 1 ≤ _), (by decide : 0 + 2 ≤ _)⟩)
  dsimp only [Pt.U, Pt.locs, Pt.cells, Pt.slots] at X5 l5 y5 z5 st5 hQ5
  subst l5 y5 z5
  obtain ⟨bC, kC, rfl, N5q, ExC, Vc, Oc, gc, sc⟩ := hQ5
  have N5 := Fr.app N4 N5q
  obtain ⟨_, _, ⟨T6, L6, k6, n6⟩, -, X6, ⟨Lc6, hQ6, l6, y6, z6⟩, st6⟩ := Jvm.LawKit.callS X5 hx (y := own_y15) hown (mvT hZ (own_w hw 220 rfl)) (mvT hZ (own_w hw 221 rfl)) (mvT hZ (own_w hw 138 rfl)) (mvT hZ (own_w hw 222 rfl)) (by decide) (backOf (W := 0) (rm_of2 l Z a0 hw [] bC kC t0 t1 T5.heap n0 (Nat.le_trans Z0 ExC.1) Vc (I_t0.ext ExC) (I_t1.ext ExC)) hZ (own_w hw 222 rfl) (own_w hw 138 rfl) (by decide) (by decide)) (g := (mkF m 50 #[.val (.ref a1), .unset] [(.ref bC)])) rfl (by rw [hml]; rfl) (argsL := [(.ref bC)]) (rest := []) (lenOf pd_23_25 rfl) rfl (Nat.le_of_eq rfl) (hb hby d23_50) (fun _ _ => ⟨rfl, rfl, (by decide : 1 + 1 ≤ _), (by decide : 2 + 2 ≤ _)⟩)
  dsimp only [Pt.U, Pt.locs, Pt.cells, Pt.slots] at X6 l6 y6 z6 st6 hQ6
  subst l6 y6 z6
  obtain ⟨bL, rfl, N6q, ExL, EaL, F1L⟩ := hQ6
  have N6 := Fr.app N5 N6q
  obtain ⟨fs, hr, hrun, hended, hW, hsame⟩ := X6.leave (v := some (.ref bL)) (fun h => by rw [Bd.returns] at h; cases h)
  refine ⟨_, _, pre0 _ ?_, hrun, hended, _, _, rfl, ?_, ⟨_, rfl⟩, hW, hsame.mono (by decide) (by decide)⟩
  · show Steps _ _ _ (s₁.setTop (mkF m 0 #[.val (.ref a1), .unset] [])) _
    refine XS.aloadN X0.here hx rfl (hb hby d23_0) rfl rfl ?_
    show Steps _ _ _ (s₁.setTop (mkF m 1 #[.val (.ref a1), .unset] [(.ref a1)])) _
    refine st2 _ ?_
    show Steps _ _ _ (T2.setTop (mkF m 4 #[.val (.ref a1), .unset] [(.int (0 : Int32))])) _
    refine XS.ifNo X2.here hx rfl (hb hby d23_4) rfl ((if0 _ _).trans (teq (by decide : (0 : Int32) = (0 : Int32))).2) ?_
    refine XS.aloadN X2.here hx rfl (hb hby d23_7) rfl rfl ?_
    show Steps _ _ _ (T2.setTop (mkF m 8 #[.val (.ref a1), .unset] [(.ref a1)])) _
    refine st3 _ ?_
    show Steps _ _ _ (T3.setTop (mkF m 11 #[.val (.ref a1), .unset] [(.int (0 : Int32))])) _
    refine XS.ifYes X3.here hx rfl (pc0 := 11) (pc' := 31) rfl (hb hby d23_11) rfl ((if0 _ _).trans (teq (by decide : (0 : Int32) = (0 : Int32))).1) (by decide) (by decide) ?_
    refine XS.aloadN X3.here hx rfl (hb hby d23_31) rfl rfl ?_
    show Steps _ _ _ (T3.setTop (mkF m 32 #[.val (.ref a1), .unset] [(.ref a1)])) _
    refine st4.trans ?_
    show Steps _ _ _ (T4.setTop (mkF m 37 #[.val (.ref a1), .unset] [(.int (0 : Int32))])) _
    refine XS.ifYes X4.here hx rfl (pc0 := 37) (pc' := 44) rfl (hb hby d23_37) rfl ((if0 _ _).trans (teq (by decide : (0 : Int32) = (0 : Int32))).1) (by decide) (by decide) ?_
    refine XS.aloadN X4.here hx rfl (hb hby d23_44) rfl rfl ?_
    show Steps _ _ _ (T4.setTop (mkF m 45 #[.val (.ref a1), .unset] [(.ref a1)])) _
    refine st5.trans ?_
    show Steps _ _ _ (T5.setTop (mkF m 50 #[.val (.ref a1), .unset] [(.ref bC)])) _
    refine st6 _ ?_
    show Steps _ _ _ (T6.setTop (mkF m 53 #[.val (.ref a1), .unset] [(.ref bL)])) _
    jvm_step X6.here [X6.here.top, hx, (hb hby d23_53), X6.method', Bd.returns, Value.isRef, FieldType.isReference]
    first | (intro acts; rw [hr _ acts rfl rfl rfl]) | rw [hr _ _ rfl rfl rfl]
    exact Steps.refl _
  · show Q_lc2 Z a1 kA vs t0 t1 aE aM h0 n0 _ T6.heap _
    exact ⟨bL, rfl, N6, own_exttr ExC ExL, EaL, F1L⟩
def Q_cof2 (Z : State) (a1 : Addr) (kA : ClassId) (vs : List Value) (t0 : Addr) (t1 : Addr) (aE : Addr) (aM : Addr) (h0 : Heap) (n0 : Nat) (v : Option Value) (h : Heap) (L : List Loc) : Prop := ∃ b, v = some (.ref b) ∧ Fr n0 L ∧ Ext h0 h ∧ Exa Z h b "java/util/ImmutableCollections$List12" ∧ Fld Z h b "java/util/ImmutableCollections$List12" "e1" "Ljava/lang/Object;" (.ref t1)
theorem rm_cof2 (l : Launch) (Z : State) (a0 : Array Value) (hw : ∀ d ∈ tables_1, d.before a0 Z = true) (ws : List Jvm.Cond) (a1 : Addr) (kA : ClassId) (vs : List Value) (t0 : Addr) (t1 : Addr) (aE : Addr) (aM : Addr) (h0 : Heap) (n0 : Nat) (Z0 : n0 ≤ h0.size) (E_a1 : Exa Z h0 a1 "java/util/ArrayList") (Fe_a1 : Fld Z h0 a1 "java/util/ArrayList" "elementData" "[Ljava/lang/Object;" (.ref aE)) (Fs_a1 : Fld Z h0 a1 "java/util/ArrayList" "size" "I" (.int (2 : Int32))) (V_aE : Arv Z h0 aE kA (.object "java/lang/Object") (10 : Int32) vs .null) (E_aE : Exa Z h0 aE "[Ljava/lang/Object;") (Mr : own_mir Z "[Ljava/lang/Object;" aM) (hv0 : vs.getD 0 .null = .ref t0) (hv1 : vs.getD 1 .null = .ref t1) (I_t0 : Ins Z h0 t0 "java/lang/Object" true) (I_t1 : Ins Z h0 t1 "java/lang/Object" true) :
    MetFree l own_y5 (head1 (Jvm.Cond.code own_y5 jdk_40_method_48_code 1 (some (.object "java/util/List")) :: ws) own_r31) (fun a U => a = #[(.ref a1)] ∧ Z.Warmed39 U.vm ∧ U.heap = h0) (fun _ _ _ _ _ => True) (fun _ U o U' => ∃ v L, o = .returned v ∧ Q_cof2 Z a1 kA vs t0 t1 aE aM h0 n0 v U'.heap L ∧ FrameEnd U o U' L own_r31.cells own_r31.slots) := by
  refine MetFree.of_bodySF (plainFor_of_name pn_22) hisR ?_
  intro p e s m args below meth c s₁ Bd hml0 hP hK
  obtain ⟨rfl, hZ, hh⟩ := hP
  have hx := Bd.exec
  have hby := Bd.bytes
  have hml : c.maxLocals = 1 := hml0
  have hown : s.vm.findClass "java/util/List" = some m.cls := findClass_of_methodNamed Bd.named
  have hnm := (name_of_methodNamed Bd.named Bd.method).1
  have X0 : Stand p l e own_r31 s m #[(.ref a1)] below meth c s₁ [] 0 0 := Stand.of_body Bd
  have e0 : s₁.heap = h0 := by rw [← hh, Bd.state]; rfl
  have N0 := Fr.nil n0
  have pre0 : ∀ t, Steps p.tables e below (s₁.setTop (mkF m 0 #[.val (.ref a1)] [])) t → Steps p.tables e below (s₁.setTop (entryFrame m #[(.ref a1)] 1)) t := fun t k => castTop (ef_22 m a1) k
  obtain ⟨_, _, ⟨T2, L2, k2, n2⟩, -, X2, ⟨Lc2, hQ2, l2, y2, z2⟩, st2⟩ := Jvm.LawKit.callS X0 hx (y := own_y6) hown (mvT hZ (own_w hw 140 rfl)) (mvT hZ (own_w hw 141 rfl)) (mvT hZ (own_w hw 119 rfl)) (mvT hZ (own_w hw 142 rfl)) (by decide) (backOf (W := 0) (rm_lc2 l Z a0 hw [] a1 kA vs t0 t1 aE aM h0 n0 Z0 E_a1 Fe_a1 Fs_a1 V_aE E_aE Mr hv0 hv1 I_t0 I_t1) hZ (own_w hw 142 rfl) (own_w hw 119 rfl) (by decide) (by decide)) (g := (mkF m 1 #[.val (.ref a1)] [(.ref a1)])) rfl (by rw [hml]; rfl) (argsL := [(.ref a1)]) (rest := []) (lenOf pd_22_16 rfl) rfl (Nat.le_of_eq rfl) (hb hby d22_1) (fun _ _ => ⟨rfl, e0, (by decide : 0 + 2 ≤ _), (by decide : 0 + 4 ≤ _)⟩)
  dsimp only [Pt.U, Pt.locs, Pt.cells, Pt.slots] at X2 l2 y2 z2 st2 hQ2
  subst l2 y2 z2
  obtain ⟨bL, rfl, N2q, ExL, EaL, F1L⟩ := hQ2
  have N2 := Fr.app N0 N2q
  obtain ⟨fs, hr, hrun, hended, hW, hsame⟩ := X2.leave (v := some (.ref bL)) (fun h => by rw [Bd.returns] at h; cases h)
  refine ⟨_, _, pre0 _ ?_, hrun, hended, _, _, rfl, ?_, ⟨_, rfl⟩, hW, hsame.mono (by decide) (by decide)⟩
  · show Steps _ _ _ (s₁.setTop (mkF m 0 #[.val (.ref a1)] [])) _
    refine XS.aloadN X0.here hx rfl (hb hby d22_0) rfl rfl ?_
    show Steps _ _ _ (s₁.setTop (mkF m 1 #[.val (.ref a1)] [(.ref a1)])) _
    refine st2 _ ?_
    show Steps _ _ _ (T2.setTop (mkF m 4 #[.val (.ref a1)] [(.ref bL)])) _
    jvm_step X2.here [X2.here.top, hx, (hb hby d22_4), X2.method', Bd.returns, Value.isRef, FieldType.isReference]
    first | (intro acts; rw [hr _ acts rfl rfl rfl]) | rw [hr _ _ rfl rfl rfl]
    exact Steps.refl _
  · show Q_cof2 Z a1 kA vs t0 t1 aE aM h0 n0 _ T2.heap _
    exact ⟨bL, rfl, N2, ExL, EaL, F1L⟩
def Q_lc3 (Z : State) (a1 : Addr) (kA : ClassId) (vs : List Value) (t0 : Addr) (t1 : Addr) (t2 : Addr) (aE : Addr) (aM : Addr) (h0 : Heap) (n0 : Nat) (v : Option Value) (h : Heap) (L : List Loc) : Prop := ∃ b eA, v = some (.ref b) ∧ Fr n0 L ∧ Ext h0 h ∧ Exa Z h b "java/util/ImmutableCollections$ListN" ∧ Fld Z h b "java/util/ImmutableCollections$ListN" "elements" "[Ljava/lang/Object;" (.ref eA) ∧ ∃ cE, Arr Z h eA cE (.object "java/lang/Object") ∧ cE.slots.size = (3 : Int32).toNatClampNeg
theorem rm_lc3 (l : Launch) (Z : State) (a0 : Array Value) (hw : ∀ d ∈ tables_1, d.before a0 Z = true) (ws : List Jvm.Cond) (a1 : Addr) (kA : ClassId) (vs : List Value) (t0 : Addr) (t1 : Addr) (t2 : Addr) (aE : Addr) (aM : Addr) (h0 : Heap) (n0 : Nat) (Z0 : n0 ≤ h0.size) (E_a1 : Exa Z h0 a1 "java/util/ArrayList") (Fe_a1 : Fld Z h0 a1 "java/util/ArrayList" "elementData" "[Ljava/lang/Object;" (.ref aE)) (Fs_a1 : Fld Z h0 a1 "java/util/ArrayList" "size" "I" (.int (3 : Int32))) (V_aE : Arv Z h0 aE kA (.object "java/lang/Object") (10 : Int32) vs .null) (E_aE : Exa Z h0 aE "[Ljava/lang/Object;") (Mr : own_mir Z "[Ljava/lang/Object;" aM) (hv0 : vs.getD 0 .null = .ref t0) (hv1 : vs.getD 1 .null = .ref t1) (hv2 : vs.getD 2 .null = .ref t2) (I_t0 : Ins Z h0 t0 "java/lang/Object" true) (I_t1 : Ins Z h0 t1 "java/lang/Object" true) (I_t2 : Ins Z h0 t2 "java/lang/Object" true) :
    MetFree l own_y6 (head1 (Jvm.Cond.code own_y6 jdk_56_method_3_code 2 (some (.object "java/util/List")) :: ws) own_r32) (fun a U => a = #[(.ref a1)] ∧ Z.Warmed39 U.vm ∧ U.heap = h0) (fun _ _ _ _ _ => True) (fun _ U o U' => ∃ v L, o = .returned v ∧ Q_lc3 Z a1 kA vs t0 t1 t2 aE aM h0 n0 v U'.heap L ∧ FrameEnd U o U' L own_r32.cells own_r32.slots) := by
  refine MetFree.of_bodySF (plainFor_of_name pn_23) hisR ?_
  intro p e s m args below meth c s₁ Bd hml0 hP hK
  obtain ⟨rfl, hZ, hh⟩ := hP
  have hx := Bd.exec
  have hby := Bd.bytes
  have hml : c.maxLocals = 2 := hml0
  have hown : s.vm.findClass "java/util/ImmutableCollections" = some m.cls := findClass_of_methodNamed Bd.named
  have hnm := (name_of_methodNamed Bd.named Bd.method).1
  have X0 : Stand p l e own_r32 s m #[(.ref a1)] below meth c s₁ [] 0 0 := Stand.of_body Bd
  have e0 : s₁.heap = h0 := by rw [← hh, Bd.state]; rfl
  have N0 := Fr.nil n0
  have pre0 : ∀ t, Steps p.tables e below (s₁.setTop (mkF m 0 #[.val (.ref a1), .unset] [])) t → Steps p.tables e below (s₁.setTop (entryFrame m #[(.ref a1)] 2)) t := fun t k => castTop (ef_23 m a1) k
  obtain ⟨T2, X2, e2, st2⟩ := instNo X0 hx hZ hown (own_w hw 143 rfl) e0 E_a1 (own_noinst (own_w hw 27 rfl) (own_w hw 144 rfl) (own_w hw 145 rfl) (own_w hw 146 rfl) (own_w hw 147 rfl) (own_w hw 224 rfl) (by decide) (by decide) (by decide) (by decide)) (g := (mkF m 1 #[.val (.ref a1), .unset] [(.ref a1)])) rfl rfl (hb hby d23_1)
  obtain ⟨T3, X3, e3, st3⟩ := instNo X2 hx hZ hown (own_w hw 148 rfl) e2 E_a1 (own_noinst (own_w hw 27 rfl) (own_w hw 144 rfl) (own_w hw 145 rfl) (own_w hw 146 rfl) (own_w hw 147 rfl) (own_w hw 321 rfl) (by decide) (by decide) (by decide) (by decide)) (g := (mkF m 8 #[.val (.ref a1), .unset] [(.ref a1)])) rfl rfl (hb hby d23_8)
  obtain ⟨cq4, kq4, q4a, q4b, q4c⟩ := isOf hZ e3 E_a1
  obtain ⟨_, _, ⟨T4, L4, k4, n4⟩, -, X4, ⟨Lc4, hQ4, l4, y4, z4⟩, st4⟩ := X3.interfaceBack hx (xi := own_y32) (y := own_y18) hown (mvT hZ (own_w hw 149 rfl)) (mvT hZ (own_w hw 150 rfl)) (mvT hZ (own_w hw 151 rfl)) (mvT hZ (own_w hw 152 rfl)) (mvT hZ (own_w hw 153 rfl)) (mvT hZ (own_w hw 154 rfl)) (mvT hZ (own_w hw 155 rfl)) (mvT hZ (own_w hw 156 rfl)) (by decide) (backOf (W := 0) (rm_isN l Z a0 hw [] a1 (3 : Int32) h0 n0 Z0 Fs_a1 (by decide)) hZ (own_w hw 157 rfl) (own_w hw 28 rfl) (by decide) (by decide)) q4a q4b q4c (g := (mkF m 32 #[.val (.ref a1), .unset] [(.ref a1)])) rfl (by rw [hml]; rfl) (Steps.refl _) (argsL := []) (rest := []) (lenOf pd_23_17 rfl) rfl (Nat.le_of_eq rfl) (hb hby d23_32) (fun _ _ => ⟨rfl, e3, (by decide : 0 + 0 ≤ _), (by decide : 0 + 0 ≤ _)⟩)
  dsimp only [Pt.U, Pt.locs, Pt.cells, Pt.slots] at X4 l4 y4 z4 st4 hQ4
  subst l4 y4 z4
  obtain ⟨rfl, N4q, K4⟩ := hQ4
  have N4 := Fr.app N0 N4q
  obtain ⟨cq5, kq5, q5a, q5b, q5c⟩ := isOf hZ K4 E_a1
  obtain ⟨_, _, ⟨T5, L5, k5, n5⟩, -, X5, ⟨Lc5, hQ5, l5, y5, z5⟩, st5⟩ := X4.interfaceBack hx (xi := own_y49) (y := own_y14) hown (mvT hZ (own_w hw 190 rfl)) (mvT hZ (own_w hw 191 rfl)) (mvT hZ (own_w hw 192 rfl)) (mvT hZ (own_w hw 193 rfl)) (mvT hZ (own_w hw 194 rfl)) (mvT hZ (own_w hw 195 rfl)) (mvT hZ (own_w hw 196 rfl)) (mvT hZ (own_w hw 156 rfl)) (by decide) (backOf (W := 0) (rm_toA3 l Z a0 hw [] a1 kA vs t0 t1 t2 aE aM h0 n0 Z0 Fe_a1 Fs_a1 V_aE E_aE Mr hv0 hv1 hv2 I_t0 I_t1 I_t2) hZ (own_w hw 197 rfl) (own_w hw 28 rfl) (by decide) (by decide)) q5a q5b q5c (g := (mkF m 45 #[.val (.ref a1), .unset] [(.ref a1)])) rfl (by rw [hml]; rfl) (Steps.refl _) (argsL := []) (rest := []) (lenOf pd_23_9 rfl) rfl (Nat.le_of_eq rfl) (hb hby d23_45) (fun _ _ => ⟨rfl, K4, (by decide : 0 + 1 ≤ _), (by decide : 0 + 3 ≤ _)⟩)
  dsimp only [Pt.U, Pt.locs, Pt.cells, Pt.slots] at X5 l5 y5 z5 st5 hQ5
  subst l5 y5 z5
  obtain ⟨bC, kC, rfl, N5q, ExC, Vc, Oc, gc, sc⟩ := hQ5
  have N5 := Fr.app N4 N5q
  obtain ⟨_, _, ⟨T6, L6, k6, n6⟩, -, X6, ⟨Lc6, hQ6, l6, y6, z6⟩, st6⟩ := Jvm.LawKit.callS X5 hx (y := own_y15) hown (mvT hZ (own_w hw 220 rfl)) (mvT hZ (own_w hw 221 rfl)) (mvT hZ (own_w hw 138 rfl)) (mvT hZ (own_w hw 222 rfl)) (by decide) (backOf (W := 0) (rm_of3 l Z a0 hw [] bC kC t0 t1 t2 T5.heap n0 (Nat.le_trans Z0 ExC.1) Vc (I_t0.ext ExC) (I_t1.ext ExC) (I_t2.ext ExC)) hZ (own_w hw 222 rfl) (own_w hw 138 rfl) (by decide) (by decide)) (g := (mkF m 50 #[.val (.ref a1), .unset] [(.ref bC)])) rfl (by rw [hml]; rfl) (argsL := [(.ref bC)]) (rest := []) (lenOf pd_23_25 rfl) rfl (Nat.le_of_eq rfl) (hb hby d23_50) (fun _ _ => ⟨rfl, rfl, (by decide : 1 + 2 ≤ _), (by decide : 3 + 5 ≤ _)⟩)
  dsimp only [Pt.U, Pt.locs, Pt.cells, Pt.slots] at X6 l6 y6 z6 st6 hQ6
  subst l6 y6 z6
  obtain ⟨bL, eL, rfl, N6q, ExL, EaL, FaL, ArL⟩ := hQ6
  have N6 := Fr.app N5 N6q
  obtain ⟨fs, hr, hrun, hended, hW, hsame⟩ := X6.leave (v := some (.ref bL)) (fun h => by rw [Bd.returns] at h; cases h)
  refine ⟨_, _, pre0 _ ?_, hrun, hended, _, _, rfl, ?_, ⟨_, rfl⟩, hW, hsame.mono (by decide) (by decide)⟩
  · show Steps _ _ _ (s₁.setTop (mkF m 0 #[.val (.ref a1), .unset] [])) _
    refine XS.aloadN X0.here hx rfl (hb hby d23_0) rfl rfl ?_
    show Steps _ _ _ (s₁.setTop (mkF m 1 #[.val (.ref a1), .unset] [(.ref a1)])) _
    refine st2 _ ?_
    show Steps _ _ _ (T2.setTop (mkF m 4 #[.val (.ref a1), .unset] [(.int (0 : Int32))])) _
    refine XS.ifNo X2.here hx rfl (hb hby d23_4) rfl ((if0 _ _).trans (teq (by decide : (0 : Int32) = (0 : Int32))).2) ?_
    refine XS.aloadN X2.here hx rfl (hb hby d23_7) rfl rfl ?_
    show Steps _ _ _ (T2.setTop (mkF m 8 #[.val (.ref a1), .unset] [(.ref a1)])) _
    refine st3 _ ?_
    show Steps _ _ _ (T3.setTop (mkF m 11 #[.val (.ref a1), .unset] [(.int (0 : Int32))])) _
    refine XS.ifYes X3.here hx rfl (pc0 := 11) (pc' := 31) rfl (hb hby d23_11) rfl ((if0 _ _).trans (teq (by decide : (0 : Int32) = (0 : Int32))).1) (by decide) (by decide) ?_
    refine XS.aloadN X3.here hx rfl (hb hby d23_31) rfl rfl ?_
    show Steps _ _ _ (T3.setTop (mkF m 32 #[.val (.ref a1), .unset] [(.ref a1)])) _
    refine st4.trans ?_
    show Steps _ _ _ (T4.setTop (mkF m 37 #[.val (.ref a1), .unset] [(.int (0 : Int32))])) _
    refine XS.ifYes X4.here hx rfl (pc0 := 37) (pc' := 44) rfl (hb hby d23_37) rfl ((if0 _ _).trans (teq (by decide : (0 : Int32) = (0 : Int32))).1) (by decide) (by decide) ?_
    refine XS.aloadN X4.here hx rfl (hb hby d23_44) rfl rfl ?_
    show Steps _ _ _ (T4.setTop (mkF m 45 #[.val (.ref a1), .unset] [(.ref a1)])) _
    refine st5.trans ?_
    show Steps _ _ _ (T5.setTop (mkF m 50 #[.val (.ref a1), .unset] [(.ref bC)])) _
    refine st6 _ ?_
    show Steps _ _ _ (T6.setTop (mkF m 53 #[.val (.ref a1), .unset] [(.ref bL)])) _
    jvm_step X6.here [X6.here.top, hx, (hb hby d23_53), X6.method', Bd.returns, Value.isRef, FieldType.isReference]
    first | (intro acts; rw [hr _ acts rfl rfl rfl]) | rw [hr _ _ rfl rfl rfl]
    exact Steps.refl _
  · show Q_lc3 Z a1 kA vs t0 t1 t2 aE aM h0 n0 _ T6.heap _
    exact ⟨bL, eL, rfl, N6, own_exttr ExC ExL, EaL, FaL, ArL⟩
def Q_cof3 (Z : State) (a1 : Addr) (kA : ClassId) (vs : List Value) (t0 : Addr) (t1 : Addr) (t2 : Addr) (aE : Addr) (aM : Addr) (h0 : Heap) (n0 : Nat) (v : Option Value) (h : Heap) (L : List Loc) : Prop := ∃ b eA, v = some (.ref b) ∧ Fr n0 L ∧ Ext h0 h ∧ Exa Z h b "java/util/ImmutableCollections$ListN" ∧ Fld Z h b "java/util/ImmutableCollections$ListN" "elements" "[Ljava/lang/Object;" (.ref eA) ∧ ∃ cE, Arr Z h eA cE (.object "java/lang/Object") ∧ cE.slots.size = (3 : Int32).toNatClampNeg
theorem rm_cof3 (l : Launch) (Z : State) (a0 : Array Value) (hw : ∀ d ∈ tables_1, d.before a0 Z = true) (ws : List Jvm.Cond) (a1 : Addr) (kA : ClassId) (vs : List Value) (t0 : Addr) (t1 : Addr) (t2 : Addr) (aE : Addr) (aM : Addr) (h0 : Heap) (n0 : Nat) (Z0 : n0 ≤ h0.size) (E_a1 : Exa Z h0 a1 "java/util/ArrayList") (Fe_a1 : Fld Z h0 a1 "java/util/ArrayList" "elementData" "[Ljava/lang/Object;" (.ref aE)) (Fs_a1 : Fld Z h0 a1 "java/util/ArrayList" "size" "I" (.int (3 : Int32))) (V_aE : Arv Z h0 aE kA (.object "java/lang/Object") (10 : Int32) vs .null) (E_aE : Exa Z h0 aE "[Ljava/lang/Object;") (Mr : own_mir Z "[Ljava/lang/Object;" aM) (hv0 : vs.getD 0 .null = .ref t0) (hv1 : vs.getD 1 .null = .ref t1) (hv2 : vs.getD 2 .null = .ref t2) (I_t0 : Ins Z h0 t0 "java/lang/Object" true) (I_t1 : Ins Z h0 t1 "java/lang/Object" true) (I_t2 : Ins Z h0 t2 "java/lang/Object" true) :
    MetFree l own_y5 (head1 (Jvm.Cond.code own_y5 jdk_40_method_48_code 1 (some (.object "java/util/List")) :: ws) own_r33) (fun a U => a = #[(.ref a1)] ∧ Z.Warmed39 U.vm ∧ U.heap = h0) (fun _ _ _ _ _ => True) (fun _ U o U' => ∃ v L, o = .returned v ∧ Q_cof3 Z a1 kA vs t0 t1 t2 aE aM h0 n0 v U'.heap L ∧ FrameEnd U o U' L own_r33.cells own_r33.slots) := by
  refine MetFree.of_bodySF (plainFor_of_name pn_22) hisR ?_
  intro p e s m args below meth c s₁ Bd hml0 hP hK
  obtain ⟨rfl, hZ, hh⟩ := hP
  have hx := Bd.exec
  have hby := Bd.bytes
  have hml : c.maxLocals = 1 := hml0
  have hown : s.vm.findClass "java/util/List" = some m.cls := findClass_of_methodNamed Bd.named
  have hnm := (name_of_methodNamed Bd.named Bd.method).1
  have X0 : Stand p l e own_r33 s m #[(.ref a1)] below meth c s₁ [] 0 0 := Stand.of_body Bd
  have e0 : s₁.heap = h0 := by rw [← hh, Bd.state]; rfl
  have N0 := Fr.nil n0
  have pre0 : ∀ t, Steps p.tables e below (s₁.setTop (mkF m 0 #[.val (.ref a1)] [])) t → Steps p.tables e below (s₁.setTop (entryFrame m #[(.ref a1)] 1)) t := fun t k => castTop (ef_22 m a1) k
  obtain ⟨_, _, ⟨T2, L2, k2, n2⟩, -, X2, ⟨Lc2, hQ2, l2, y2, z2⟩, st2⟩ := Jvm.LawKit.callS X0 hx (y := own_y6) hown (mvT hZ (own_w hw 140 rfl)) (mvT hZ (own_w hw 141 rfl)) (mvT hZ (own_w hw 119 rfl)) (mvT hZ (own_w hw 142 rfl)) (by decide) (backOf (W := 0) (rm_lc3 l Z a0 hw [] a1 kA vs t0 t1 t2 aE aM h0 n0 Z0 E_a1 Fe_a1 Fs_a1 V_aE E_aE Mr hv0 hv1 hv2 I_t0 I_t1 I_t2) hZ (own_w hw 142 rfl) (own_w hw 119 rfl) (by decide) (by decide)) (g := (mkF m 1 #[.val (.ref a1)] [(.ref a1)])) rfl (by rw [hml]; rfl) (argsL := [(.ref a1)]) (rest := []) (lenOf pd_22_16 rfl) rfl (Nat.le_of_eq rfl) (hb hby d22_1) (fun _ _ => ⟨rfl, e0, (by decide : 0 + 3 ≤ _), (by decide : 0 + 8 ≤ _)⟩)
  dsimp only [Pt.U, Pt.locs, Pt.cells, Pt.slots] at X2 l2 y2 z2 st2 hQ2
  subst l2 y2 z2
  obtain ⟨bL, eL, rfl, N2q, ExL, EaL, FaL, ArL⟩ := hQ2
  have N2 := Fr.app N0 N2q
  obtain ⟨fs, hr, hrun, hended, hW, hsame⟩ := X2.leave (v := some (.ref bL)) (fun h => by rw [Bd.returns] at h; cases h)
  refine ⟨_, _, pre0 _ ?_, hrun, hended, _, _, rfl, ?_, ⟨_, rfl⟩, hW, hsame.mono (by decide) (by decide)⟩
  · show Steps _ _ _ (s₁.setTop (mkF m 0 #[.val (.ref a1)] [])) _
    refine XS.aloadN X0.here hx rfl (hb hby d22_0) rfl rfl ?_
    show Steps _ _ _ (s₁.setTop (mkF m 1 #[.val (.ref a1)] [(.ref a1)])) _
    refine st2 _ ?_
    show Steps _ _ _ (T2.setTop (mkF m 4 #[.val (.ref a1)] [(.ref bL)])) _
    jvm_step X2.here [X2.here.top, hx, (hb hby d22_4), X2.method', Bd.returns, Value.isRef, FieldType.isReference]
    first | (intro acts; rw [hr _ acts rfl rfl rfl]) | rw [hr _ _ rfl rfl rfl]
    exact Steps.refl _
  · show Q_cof3 Z a1 kA vs t0 t1 t2 aE aM h0 n0 _ T2.heap _
    exact ⟨bL, eL, rfl, N2, ExL, EaL, FaL, ArL⟩
theorem own_wS {Z : State} {a0 : Array Value} (hw : ∀ d ∈ tables_1, d.before a0 Z = true) : ∀ a ∈ Bundle.stringAtoms, a.before a0 Z = true := fun a ha => by
  simp only [Bundle.stringAtoms, List.mem_cons, List.not_mem_nil, or_false] at ha
  rcases ha with rfl | rfl | rfl | rfl | rfl | rfl | rfl
  · exact (own_w hw 2 rfl)
  · exact (own_w hw 10 rfl)
  · exact (own_w hw 14 rfl)
  · exact (own_w hw 23 rfl)
  · exact (own_w hw 25 rfl)
  · exact (own_w hw 130 rfl)
  · exact (own_w hw 131 rfl)
theorem d41_0 : decode prog_19_method_1_code 0 = .ok (.aload_n 0, 1) := by decide +kernel
theorem d41_1 : decode prog_19_method_1_code 1 = .ok (.invokespecial 1, 3) := by decide +kernel
theorem d41_4 : decode prog_19_method_1_code 4 = .ok (.aload_n 1, 1) := by decide +kernel
theorem d41_5 : decode prog_19_method_1_code 5 = .ok (.ldc 7, 2) := by decide +kernel
theorem d41_7 : decode prog_19_method_1_code 7 = .ok (.invokestatic 9, 3) := by decide +kernel
theorem d41_10 : decode prog_19_method_1_code 10 = .ok (.pop, 1) := by decide +kernel
theorem d41_11 : decode prog_19_method_1_code 11 = .ok (.aload_n 2, 1) := by decide +kernel
theorem d41_12 : decode prog_19_method_1_code 12 = .ok (.ldc 15, 2) := by decide +kernel
theorem d41_14 : decode prog_19_method_1_code 14 = .ok (.invokestatic 9, 3) := by decide +kernel
theorem d41_17 : decode prog_19_method_1_code 17 = .ok (.pop, 1) := by decide +kernel
theorem d41_18 : decode prog_19_method_1_code 18 = .ok (.aload_n 3, 1) := by decide +kernel
theorem d41_19 : decode prog_19_method_1_code 19 = .ok (.ldc 17, 2) := by decide +kernel
theorem d41_21 : decode prog_19_method_1_code 21 = .ok (.invokestatic 9, 3) := by decide +kernel
theorem d41_24 : decode prog_19_method_1_code 24 = .ok (.pop, 1) := by decide +kernel
theorem d41_25 : decode prog_19_method_1_code 25 = .ok (.aload 4, 2) := by decide +kernel
theorem d41_27 : decode prog_19_method_1_code 27 = .ok (.ldc 19, 2) := by decide +kernel
theorem d41_29 : decode prog_19_method_1_code 29 = .ok (.invokestatic 9, 3) := by decide +kernel
theorem d41_32 : decode prog_19_method_1_code 32 = .ok (.pop, 1) := by decide +kernel
theorem d41_33 : decode prog_19_method_1_code 33 = .ok (.aload_n 0, 1) := by decide +kernel
theorem d41_34 : decode prog_19_method_1_code 34 = .ok (.aload_n 1, 1) := by decide +kernel
theorem d41_35 : decode prog_19_method_1_code 35 = .ok (.putfield 21, 3) := by decide +kernel
theorem d41_38 : decode prog_19_method_1_code 38 = .ok (.aload_n 0, 1) := by decide +kernel
theorem d41_39 : decode prog_19_method_1_code 39 = .ok (.aload_n 2, 1) := by decide +kernel
theorem d41_40 : decode prog_19_method_1_code 40 = .ok (.putfield 26, 3) := by decide +kernel
theorem d41_43 : decode prog_19_method_1_code 43 = .ok (.aload_n 0, 1) := by decide +kernel
theorem d41_44 : decode prog_19_method_1_code 44 = .ok (.aload_n 3, 1) := by decide +kernel
theorem d41_45 : decode prog_19_method_1_code 45 = .ok (.putfield 28, 3) := by decide +kernel
theorem d41_48 : decode prog_19_method_1_code 48 = .ok (.aload_n 0, 1) := by decide +kernel
theorem d41_49 : decode prog_19_method_1_code 49 = .ok (.aload 4, 2) := by decide +kernel
theorem d41_51 : decode prog_19_method_1_code 51 = .ok (.putfield 30, 3) := by decide +kernel
theorem d41_54 : decode prog_19_method_1_code 54 = .ok (.return_, 1) := by decide +kernel
theorem pn_41 : plainName "com/example/arcrover/arcrover/Transition" = true := by first | (simp [plainName, overriddenIn]; done) | decide +kernel
theorem pd_41_4 : parseMethodDescriptor "()V" = some ⟨[], none⟩ := by decide +kernel
theorem pd_41_15 : parseMethodDescriptor "(Ljava/lang/Object;Ljava/lang/String;)Ljava/lang/Object;" = some ⟨[(.object "java/lang/Object"), (.object "java/lang/String")], some (.object "java/lang/Object")⟩ := by decide +kernel
theorem ef_41 (m : MethodId) (x0 : Addr) (x1 : Addr) (x2 : Addr) (x3 : Addr) (x4 : Addr) : entryFrame m #[(.ref x0), (.ref x1), (.ref x2), (.ref x3), (.ref x4)] 5 = mkF m 0 #[.val (.ref x0), .val (.ref x1), .val (.ref x2), .val (.ref x3), .val (.ref x4)] [] := by first | (simp [entryFrame, mkF, argsToLocals, Value.category]; done) | rfl
def Q_tinit (Z : State) (a1 : Addr) (a2 : Addr) (a3 : Addr) (a4 : Addr) (a5 : Addr) (u_source_a1 : Value) (u_stimulus_a1 : Value) (u_reaction_a1 : Value) (u_target_a1 : Value) (h0 : Heap) (n0 : Nat) (v : Option Value) (h : Heap) (L : List Loc) : Prop := v = none ∧ Fr n0 L ∧ Keep h0 h [a1] ∧ Exa Z h a1 "com/example/arcrover/arcrover/Transition"
theorem rm_tinit (l : Launch) (Z : State) (a0 : Array Value) (hw : ∀ d ∈ tables_1, d.before a0 Z = true) (ws : List Jvm.Cond) (a1 : Addr) (a2 : Addr) (a3 : Addr) (a4 : Addr) (a5 : Addr) (u_source_a1 : Value) (u_stimulus_a1 : Value) (u_reaction_a1 : Value) (u_target_a1 : Value) (h0 : Heap) (n0 : Nat) (Z0 : n0 ≤ h0.size) (E_a1 : Exa Z h0 a1 "com/example/arcrover/arcrover/Transition") (F_source_a1 : Fld Z h0 a1 "com/example/arcrover/arcrover/Transition" "source" "Ljava/lang/String;" u_source_a1) (g_a1 : n0 ≤ a1) (F_stimulus_a1 : Fld Z h0 a1 "com/example/arcrover/arcrover/Transition" "stimulus" "Ljava/lang/String;" u_stimulus_a1) (F_reaction_a1 : Fld Z h0 a1 "com/example/arcrover/arcrover/Transition" "reaction" "Ljava/lang/String;" u_reaction_a1) (F_target_a1 : Fld Z h0 a1 "com/example/arcrover/arcrover/Transition" "target" "Ljava/lang/String;" u_target_a1) :
    MetFree l own_y19 (head1 (Jvm.Cond.code own_y19 prog_19_method_1_code 5 none :: ws) own_r34) (fun a U => a = #[(.ref a1), (.ref a2), (.ref a3), (.ref a4), (.ref a5)] ∧ Z.Warmed39 U.vm ∧ U.heap = h0) (fun _ _ _ _ _ => True) (fun _ U o U' => ∃ v L, o = .returned v ∧ Q_tinit Z a1 a2 a3 a4 a5 u_source_a1 u_stimulus_a1 u_reaction_a1 u_target_a1 h0 n0 v U'.heap L ∧ ReturnedEndW U o U' L own_r34.cells own_r34.slots) := by
  refine MetFree.of_bodySF (plainFor_of_name pn_41) hisR ?_
  intro p e s m args below meth c s₁ Bd hml0 hP hK
  obtain ⟨rfl, hZ, hh⟩ := hP
  have hx := Bd.exec
  have hby := Bd.bytes
  have hml : c.maxLocals = 5 := hml0
  have hown : s.vm.findClass "com/example/arcrover/arcrover/Transition" = some m.cls := findClass_of_methodNamed Bd.named
  have hnm := (name_of_methodNamed Bd.named Bd.method).1
  have X0 : Stand p l e own_r34 (s.setVm s.vm) m #[(.ref a1), (.ref a2), (.ref a3), (.ref a4), (.ref a5)] below meth c s₁ [] 0 0 := Stand.of_body Bd
  have hS : s.Since s.vm s.heap.size := (State.WarmedH.refl s).since s.heap.size
  have hk : s.heap.size ≤ h0.size := Nat.le_of_eq (congrArg Array.size hh)
  have e0 : s₁.heap = h0 := by rw [← hh, Bd.state]; rfl
  have N0 := Fr.nil n0
  have pre0 : ∀ t, Steps p.tables e below (s₁.setTop (mkF m 0 #[.val (.ref a1), .val (.ref a2), .val (.ref a3), .val (.ref a4), .val (.ref a5)] [])) t → Steps p.tables e below (s₁.setTop (entryFrame m #[(.ref a1), (.ref a2), (.ref a3), (.ref a4), (.ref a5)] 5)) t := fun t k => castTop (ef_41 m a1 a2 a3 a4 a5) k
  obtain ⟨_, _, ⟨T6, L6, k6, n6⟩, -, X6, ⟨Lc6, hQ6, l6, y6, z6⟩, st6⟩ := X0.specialBack hx (y := own_y16) rfl hown (mvT hZ (own_w hw 298 rfl)) (mvT hZ (own_w hw 124 rfl)) (mvT hZ (own_w hw 127 rfl)) (by decide) (backOf (W := 0) (rm_rec l Z a0 hw [] a1  h0 n0 Z0) hZ (own_w hw 127 rfl) (own_w hw 126 rfl) (by decide) (by decide)) (g := (mkF m 1 #[.val (.ref a1), .val (.ref a2), .val (.ref a3), .val (.ref a4), .val (.ref a5)] [(.ref a1)])) rfl (by rw [hml]; rfl) (Steps.refl _) (a := a1) (argsL := []) (rest := []) (lenOf pd_41_4 rfl) rfl (Nat.le_of_eq rfl) (hb hby d41_1) (fun _ _ => ⟨rfl, e0, (by decide : 0 + 0 ≤ _), (by decide : 0 + 0 ≤ _)⟩)
  dsimp only [Pt.U, Pt.locs, Pt.cells, Pt.slots] at X6 l6 y6 z6 st6 hQ6
  subst l6 y6 z6
  obtain ⟨rfl, N6q, K6⟩ := hQ6
  have N6 := Fr.app N0 N6q
  obtain ⟨aS7, T7, h7, k7, X7, e7, E7, hS, hk, hZ, hown, st7⟩ := ldcS X6 hx hZ hown (own_w hw 299 rfl) (own_wS hw) K6 hS hk (g := (mkF m 5 #[.val (.ref a1), .val (.ref a2), .val (.ref a3), .val (.ref a4), .val (.ref a5)] [(.ref a2)])) rfl (hb hby d41_5) (n := 24) (by decide) (by decide) (by decide) (by decide)
  have Kc7 : Keep h0 h7 [a1] := (Keep.refl h0 [a1]).ext E7
  obtain ⟨_, _, ⟨T8, L8, k8, n8⟩, -, X8, ⟨Lc8, hQ8, l8, y8, z8⟩, st8⟩ := Jvm.LawKit.callS X7 hx (y := own_y9) hown (mvT hZ (own_w hw 300 rfl)) (mvT hZ (own_w hw 133 rfl)) (mvT hZ (own_w hw 134 rfl)) (mvT hZ (own_w hw 135 rfl)) (by decide) (backOf (W := 0) (rm_rnn2 l Z a0 hw [] a2 aS7  h7 n0 (Nat.le_trans Z0 E7.1)) hZ (own_w hw 135 rfl) (own_w hw 134 rfl) (by decide) (by decide)) (g := (mkF m 7 #[.val (.ref a1), .val (.ref a2), .val (.ref a3), .val (.ref a4), .val (.ref a5)] [(.ref aS7), (.ref a2)])) rfl (by rw [hml]; rfl) (argsL := [(.ref a2), (.ref aS7)]) (rest := []) (lenOf pd_41_15 rfl) rfl (Nat.le_of_eq rfl) (hb hby d41_7) (fun _ _ => ⟨rfl, e7, (by decide : 2 + 0 ≤ _), (by decide : 28 + 0 ≤ _)⟩)
  dsimp only [Pt.U, Pt.locs, Pt.cells, Pt.slots] at X8 l8 y8 z8 st8 hQ8
  subst l8 y8 z8
  obtain ⟨rfl, N8q, K8⟩ := hQ8
  have N8 := Fr.app N6 N8q
  obtain ⟨aS9, T9, h9, k9, X9, e9, E9, hS, hk, hZ, hown, st9⟩ := ldcS X8 hx hZ hown (own_w hw 301 rfl) (own_wS hw) K8 hS hk (g := (mkF m 12 #[.val (.ref a1), .val (.ref a2), .val (.ref a3), .val (.ref a4), .val (.ref a5)] [(.ref a3)])) rfl (hb hby d41_12) (n := 32) (by decide) (by decide) (by decide) (by decide)
  have Kc9 : Keep h0 h9 [a1] := Kc7.ext E9
  obtain ⟨_, _, ⟨T10, L10, k10, n10⟩, -, X10, ⟨Lc10, hQ10, l10, y10, z10⟩, st10⟩ := Jvm.LawKit.callS X9 hx (y := own_y9) hown (mvT hZ (own_w hw 300 rfl)) (mvT hZ (own_w hw 133 rfl)) (mvT hZ (own_w hw 134 rfl)) (mvT hZ (own_w hw 135 rfl)) (by decide) (backOf (W := 0) (rm_rnn2 l Z a0 hw [] a3 aS9  h9 n0 (Nat.le_trans (Nat.le_trans Z0 E7.1) E9.1)) hZ (own_w hw 135 rfl) (own_w hw 134 rfl) (by decide) (by decide)) (g := (mkF m 14 #[.val (.ref a1), .val (.ref a2), .val (.ref a3), .val (.ref a4), .val (.ref a5)] [(.ref aS9), (.ref a3)])) rfl (by rw [hml]; rfl) (argsL := [(.ref a3), (.ref aS9)]) (rest := []) (lenOf pd_41_15 rfl) rfl (Nat.le_of_eq rfl) (hb hby d41_14) (fun _ _ => ⟨rfl, e9, (by decide : 4 + 0 ≤ _), (by decide : 64 + 0 ≤ _)⟩)
  dsimp only [Pt.U, Pt.locs, Pt.cells, Pt.slots] at X10 l10 y10 z10 st10 hQ10
  subst l10 y10 z10
  obtain ⟨rfl, N10q, K10⟩ := hQ10
  have N10 := Fr.app N8 N10q
  obtain ⟨aS11, T11, h11, k11, X11, e11, E11, hS, hk, hZ, hown, st11⟩ := ldcS X10 hx hZ hown (own_w hw 302 rfl) (own_wS hw) K10 hS hk (g := (mkF m 19 #[.val (.ref a1), .val (.ref a2), .val (.ref a3), .val (.ref a4), .val (.ref a5)] [(.ref a4)])) rfl (hb hby d41_19) (n := 32) (by decide) (by decide) (by decide) (by decide)
  have Kc11 : Keep h0 h11 [a1] := Kc9.ext E11
  obtain ⟨_, _, ⟨T12, L12, k12, n12⟩, -, X12, ⟨Lc12, hQ12, l12, y12, z12⟩, st12⟩ := Jvm.LawKit.callS X11 hx (y := own_y9) hown (mvT hZ (own_w hw 300 rfl)) (mvT hZ (own_w hw 133 rfl)) (mvT hZ (own_w hw 134 rfl)) (mvT hZ (own_w hw 135 rfl)) (by decide) (backOf (W := 0) (rm_rnn2 l Z a0 hw [] a4 aS11  h11 n0 (Nat.le_trans (Nat.le_trans (Nat.le_trans Z0 E7.1) E9.1) E11.1)) hZ (own_w hw 135 rfl) (own_w hw 134 rfl) (by decide) (by decide)) (g := (mkF m 21 #[.val (.ref a1), .val (.ref a2), .val (.ref a3), .val (.ref a4), .val (.ref a5)] [(.ref aS11), (.ref a4)])) rfl (by rw [hml]; rfl) (argsL := [(.ref a4), (.ref aS11)]) (rest := []) (lenOf pd_41_15 rfl) rfl (Nat.le_of_eq rfl) (hb hby d41_21) (fun _ _ => ⟨rfl, e11, (by decide : 6 + 0 ≤ _), (by decide : 100 + 0 ≤ _)⟩)
  dsimp only [Pt.U, Pt.locs, Pt.cells, Pt.slots] at X12 l12 y12 z12 st12 hQ12
  subst l12 y12 z12
  obtain ⟨rfl, N12q, K12⟩ := hQ12
  have N12 := Fr.app N10 N12q
  obtain ⟨aS13, T13, h13, k13, X13, e13, E13, hS, hk, hZ, hown, st13⟩ := ldcS X12 hx hZ hown (own_w hw 303 rfl) (own_wS hw) K12 hS hk (g := (mkF m 27 #[.val (.ref a1), .val (.ref a2), .val (.ref a3), .val (.ref a4), .val (.ref a5)] [(.ref a5)])) rfl (hb hby d41_27) (n := 24) (by decide) (by decide) (by decide) (by decide)
  have Kc13 : Keep h0 h13 [a1] := Kc11.ext E13
  obtain ⟨_, _, ⟨T14, L14, k14, n14⟩, -, X14, ⟨Lc14, hQ14, l14, y14, z14⟩, st14⟩ := Jvm.LawKit.callS X13 hx (y := own_y9) hown (mvT hZ (own_w hw 300 rfl)) (mvT hZ (own_w hw 133 rfl)) (mvT hZ (own_w hw 134 rfl)) (mvT hZ (own_w hw 135 rfl)) (by decide) (backOf (W := 0) (rm_rnn2 l Z a0 hw [] a5 aS13  h13 n0 (Nat.le_trans (Nat.le_trans (Nat.le_trans (Nat.le_trans Z0 E7.1) E9.1) E11.1) E13.1)) hZ (own_w hw 135 rfl) (own_w hw 134 rfl) (by decide) (by decide)) (g := (mkF m 29 #[.val (.ref a1), .val (.ref a2), .val (.ref a3), .val (.ref a4), .val (.ref a5)] [(.ref aS13), (.ref a5)])) rfl (by rw [hml]; rfl) (argsL := [(.ref a5), (.ref aS13)]) (rest := []) (lenOf pd_41_15 rfl) rfl (Nat.le_of_eq rfl) (hb hby d41_29) (fun _ _ => ⟨rfl, e13, (by decide : 8 + 0 ≤ _), (by decide : 128 + 0 ≤ _)⟩)
  dsimp only [Pt.U, Pt.locs, Pt.cells, Pt.slots] at X14 l14 y14 z14 st14 hQ14
  subst l14 y14 z14
  obtain ⟨rfl, N14q, K14⟩ := hQ14
  have N14 := Fr.app N12 N14q
  obtain ⟨T15, h15, X15, e15, W15, st15⟩ := putF X14 hx hZ hown (host := "") (Or.inl (own_w hw 304 rfl)) Via.refl K14 ((((F_source_a1.ext E7).ext E9).ext E11).ext E13) ((((E_a1.ext E7).ext E9).ext E11).ext E13) (Or.inr ⟨(own_w hw 305 rfl), rfl, hnm⟩) (own_w hw 293 rfl) (ty := (.object "java/lang/String")) (by decide) rfl rfl (g := (mkF m 35 #[.val (.ref a1), .val (.ref a2), .val (.ref a3), .val (.ref a4), .val (.ref a5)] [(.ref a2), (.ref a1)])) rfl rfl (hb hby d41_35)
  have Fw15 := ((((F_source_a1.ext E7).ext E9).ext E11).ext E13).same W15
  have K15 : Keep h0 h15 [a1] := Kc13.wr W15 (Or.inl (List.mem_of_getElem? (i := 0) rfl))
  have N15 := Fr.snoc X15 N14 g_a1
  obtain ⟨T16, h16, X16, e16, W16, st16⟩ := putF X15 hx hZ hown (host := "") (Or.inl (own_w hw 306 rfl)) Via.refl e15 (((((F_stimulus_a1.ext E7).ext E9).ext E11).ext E13).other W15 (Or.inr (slot_ne (Or.inr (own_w hw 307 rfl)) (Or.inr (own_w hw 305 rfl)) (by decide) (t := (.object "java/lang/String")) (t' := (.object "java/lang/String")) (by decide) (by decide)))) (((((E_a1.ext E7).ext E9).ext E11).ext E13).wr W15) (Or.inr ⟨(own_w hw 307 rfl), rfl, hnm⟩) (own_w hw 293 rfl) (ty := (.object "java/lang/String")) (by decide) rfl rfl (g := (mkF m 40 #[.val (.ref a1), .val (.ref a2), .val (.ref a3), .val (.ref a4), .val (.ref a5)] [(.ref a3), (.ref a1)])) rfl rfl (hb hby d41_40)
  have Fw16 := (((((F_stimulus_a1.ext E7).ext E9).ext E11).ext E13).other W15 (Or.inr (slot_ne (Or.inr (own_w hw 307 rfl)) (Or.inr (own_w hw 305 rfl)) (by decide) (t := (.object "java/lang/String")) (t' := (.object "java/lang/String")) (by decide) (by decide)))).same W16
  have K16 : Keep h0 h16 [a1] := K15.wr W16 (Or.inl (List.mem_of_getElem? (i := 0) rfl))
  have N16 := Fr.snoc X16 N15 g_a1
  obtain ⟨T17, h17, X17, e17, W17, st17⟩ := putF X16 hx hZ hown (host := "") (Or.inl (own_w hw 308 rfl)) Via.refl e16 ((((((F_reaction_a1.ext E7).ext E9).ext E11).ext E13).other W15 (Or.inr (slot_ne (Or.inr (own_w hw 309 rfl)) (Or.inr (own_w hw 305 rfl)) (by decide) (t := (.object "java/lang/String")) (t' := (.object "java/lang/String")) (by decide) (by decide)))).other W16 (Or.inr (slot_ne (Or.inr (own_w hw 309 rfl)) (Or.inr (own_w hw 307 rfl)) (by decide) (t := (.object "java/lang/String")) (t' := (.object "java/lang/String")) (by decide) (by decide)))) ((((((E_a1.ext E7).ext E9).ext E11).ext E13).wr W15).wr W16) (Or.inr ⟨(own_w hw 309 rfl), rfl, hnm⟩) (own_w hw 293 rfl) (ty := (.object "java/lang/String")) (by decide) rfl rfl (g := (mkF m 45 #[.val (.ref a1), .val (.ref a2), .val (.ref a3), .val (.ref a4), .val (.ref a5)] [(.ref a4), (.ref a1)])) rfl rfl (hb hby d41_45)
  have Fw17 := ((((((F_reaction_a1.ext E7).ext E9).ext E11).ext E13).other W15 (Or.inr (slot_ne (Or.inr (own_w hw 309 rfl)) (Or.inr (own_w hw 305 rfl)) (by decide) (t := (.object "java/lang/String")) (t' := (.object "java/lang/String")) (by decide) (by decide)))).other W16 (Or.inr (slot_ne (Or.inr (own_w hw 309 rfl)) (Or.inr (own_w hw 307 rfl)) (by decide) (t := (.object "java/lang/String")) (t' := (.object "java/lang/String")) (by decide) (by decide)))).same W17
  have K17 : Keep h0 h17 [a1] := K16.wr W17 (Or.inl (List.mem_of_getElem? (i := 0) rfl))
  have N17 := Fr.snoc X17 N16 g_a1
  obtain ⟨T18, h18, X18, e18, W18, st18⟩ := putF X17 hx hZ hown (host := "") (Or.inl (own_w hw 310 rfl)) Via.refl e17 (((((((F_target_a1.ext E7).ext E9).ext E11).ext E13).other W15 (Or.inr (slot_ne (Or.inr (own_w hw 311 rfl)) (Or.inr (own_w hw 305 rfl)) (by decide) (t := (.object "java/lang/String")) (t' := (.object "java/lang/String")) (by decide) (by decide)))).other W16 (Or.inr (slot_ne (Or.inr (own_w hw 311 rfl)) (Or.inr (own_w hw 307 rfl)) (by decide) (t := (.object "java/lang/String")) (t' := (.object "java/lang/String")) (by decide) (by decide)))).other W17 (Or.inr (slot_ne (Or.inr (own_w hw 311 rfl)) (Or.inr (own_w hw 309 rfl)) (by decide) (t := (.object "java/lang/String")) (t' := (.object "java/lang/String")) (by decide) (by decide)))) (((((((E_a1.ext E7).ext E9).ext E11).ext E13).wr W15).wr W16).wr W17) (Or.inr ⟨(own_w hw 311 rfl), rfl, hnm⟩) (own_w hw 293 rfl) (ty := (.object "java/lang/String")) (by decide) rfl rfl (g := (mkF m 51 #[.val (.ref a1), .val (.ref a2), .val (.ref a3), .val (.ref a4), .val (.ref a5)] [(.ref a5), (.ref a1)])) rfl rfl (hb hby d41_51)
  have Fw18 := (((((((F_target_a1.ext E7).ext E9).ext E11).ext E13).other W15 (Or.inr (slot_ne (Or.inr (own_w hw 311 rfl)) (Or.inr (own_w hw 305 rfl)) (by decide) (t := (.object "java/lang/String")) (t' := (.object "java/lang/String")) (by decide) (by decide)))).other W16 (Or.inr (slot_ne (Or.inr (own_w hw 311 rfl)) (Or.inr (own_w hw 307 rfl)) (by decide) (t := (.object "java/lang/String")) (t' := (.object "java/lang/String")) (by decide) (by decide)))).other W17 (Or.inr (slot_ne (Or.inr (own_w hw 311 rfl)) (Or.inr (own_w hw 309 rfl)) (by decide) (t := (.object "java/lang/String")) (t' := (.object "java/lang/String")) (by decide) (by decide)))).same W18
  have K18 : Keep h0 h18 [a1] := K17.wr W18 (Or.inl (List.mem_of_getElem? (i := 0) rfl))
  have N18 := Fr.snoc X18 N17 g_a1
  have hkEnd := Nat.le_trans (Nat.le_trans (Nat.le_trans (Nat.le_trans (Nat.le_trans hk (Keep.of_wr W15).1) (Keep.of_wr W16).1) (Keep.of_wr W17).1) (Keep.of_wr W18).1) (Nat.le_of_eq (congrArg Array.size e18).symm)
  obtain ⟨fs, hr, hrun, hended, hEW⟩ := X18.leaveW hS hkEnd (v := none) (fun _ => rfl)
  refine ⟨_, _, pre0 _ ?_, hrun, hended, _, _, rfl, ?_, hEW.1, hEW.2.1, hEW.2.2.1, hEW.2.2.2.mono (by decide) (by decide)⟩
  · show Steps _ _ _ (s₁.setTop (mkF m 0 #[.val (.ref a1), .val (.ref a2), .val (.ref a3), .val (.ref a4), .val (.ref a5)] [])) _
    refine XS.aloadN X0.here hx rfl (hb hby d41_0) rfl rfl ?_
    show Steps _ _ _ (s₁.setTop (mkF m 1 #[.val (.ref a1), .val (.ref a2), .val (.ref a3), .val (.ref a4), .val (.ref a5)] [(.ref a1)])) _
    refine st6.trans ?_
    show Steps _ _ _ (T6.setTop (mkF m 4 #[.val (.ref a1), .val (.ref a2), .val (.ref a3), .val (.ref a4), .val (.ref a5)] [])) _
    refine XS.aloadN X6.here hx rfl (hb hby d41_4) rfl rfl ?_
    show Steps _ _ _ (T6.setTop (mkF m 5 #[.val (.ref a1), .val (.ref a2), .val (.ref a3), .val (.ref a4), .val (.ref a5)] [(.ref a2)])) _
    refine st7 _ ?_
    show Steps _ _ _ (T7.setTop (mkF m 7 #[.val (.ref a1), .val (.ref a2), .val (.ref a3), .val (.ref a4), .val (.ref a5)] [(.ref aS7), (.ref a2)])) _
    refine st8 _ ?_
    show Steps _ _ _ (T8.setTop (mkF m 10 #[.val (.ref a1), .val (.ref a2), .val (.ref a3), .val (.ref a4), .val (.ref a5)] [(.ref a2)])) _
    refine XS.pop X8.here hx rfl (hb hby d41_10) rfl rfl ?_
    refine XS.aloadN X8.here hx rfl (hb hby d41_11) rfl rfl ?_
    show Steps _ _ _ (T8.setTop (mkF m 12 #[.val (.ref a1), .val (.ref a2), .val (.ref a3), .val (.ref a4), .val (.ref a5)] [(.ref a3)])) _
    refine st9 _ ?_
    show Steps _ _ _ (T9.setTop (mkF m 14 #[.val (.ref a1), .val (.ref a2), .val (.ref a3), .val (.ref a4), .val (.ref a5)] [(.ref aS9), (.ref a3)])) _
    refine st10 _ ?_
    show Steps _ _ _ (T10.setTop (mkF m 17 #[.val (.ref a1), .val (.ref a2), .val (.ref a3), .val (.ref a4), .val (.ref a5)] [(.ref a3)])) _
    refine XS.pop X10.here hx rfl (hb hby d41_17) rfl rfl ?_
    refine XS.aloadN X10.here hx rfl (hb hby d41_18) rfl rfl ?_
    show Steps _ _ _ (T10.setTop (mkF m 19 #[.val (.ref a1), .val (.ref a2), .val (.ref a3), .val (.ref a4), .val (.ref a5)] [(.ref a4)])) _
    refine st11 _ ?_
    show Steps _ _ _ (T11.setTop (mkF m 21 #[.val (.ref a1), .val (.ref a2), .val (.ref a3), .val (.ref a4), .val (.ref a5)] [(.ref aS11), (.ref a4)])) _
    refine st12 _ ?_
    show Steps _ _ _ (T12.setTop (mkF m 24 #[.val (.ref a1), .val (.ref a2), .val (.ref a3), .val (.ref a4), .val (.ref a5)] [(.ref a4)])) _
    refine XS.pop X12.here hx rfl (hb hby d41_24) rfl rfl ?_
    refine XS.aload X12.here hx rfl (hb hby d41_25) rfl rfl ?_
    show Steps _ _ _ (T12.setTop (mkF m 27 #[.val (.ref a1), .val (.ref a2), .val (.ref a3), .val (.ref a4), .val (.ref a5)] [(.ref a5)])) _
    refine st13 _ ?_
    show Steps _ _ _ (T13.setTop (mkF m 29 #[.val (.ref a1), .val (.ref a2), .val (.ref a3), .val (.ref a4), .val (.ref a5)] [(.ref aS13), (.ref a5)])) _
    refine st14 _ ?_
    show Steps _ _ _ (T14.setTop (mkF m 32 #[.val (.ref a1), .val (.ref a2), .val (.ref a3), .val (.ref a4), .val (.ref a5)] [(.ref a5)])) _
    refine XS.pop X14.here hx rfl (hb hby d41_32) rfl rfl ?_
    refine XS.aloadN X14.here hx rfl (hb hby d41_33) rfl rfl ?_
    refine XS.aloadN X14.here hx rfl (hb hby d41_34) rfl rfl ?_
    show Steps _ _ _ (T14.setTop (mkF m 35 #[.val (.ref a1), .val (.ref a2), .val (.ref a3), .val (.ref a4), .val (.ref a5)] [(.ref a2), (.ref a1)])) _
    refine st15 _ ?_
    show Steps _ _ _ (T15.setTop (mkF m 38 #[.val (.ref a1), .val (.ref a2), .val (.ref a3), .val (.ref a4), .val (.ref a5)] [])) _
    refine XS.aloadN X15.here hx rfl (hb hby d41_38) rfl rfl ?_
    refine XS.aloadN X15.here hx rfl (hb hby d41_39) rfl rfl ?_
    show Steps _ _ _ (T15.setTop (mkF m 40 #[.val (.ref a1), .val (.ref a2), .val (.ref a3), .val (.ref a4), .val (.ref a5)] [(.ref a3), (.ref a1)])) _
    refine st16 _ ?_
    show Steps _ _ _ (T16.setTop (mkF m 43 #[.val (.ref a1), .val (.ref a2), .val (.ref a3), .val (.ref a4), .val (.ref a5)] [])) _
    refine XS.aloadN X16.here hx rfl (hb hby d41_43) rfl rfl ?_
    refine XS.aloadN X16.here hx rfl (hb hby d41_44) rfl rfl ?_
    show Steps _ _ _ (T16.setTop (mkF m 45 #[.val (.ref a1), .val (.ref a2), .val (.ref a3), .val (.ref a4), .val (.ref a5)] [(.ref a4), (.ref a1)])) _
    refine st17 _ ?_
    show Steps _ _ _ (T17.setTop (mkF m 48 #[.val (.ref a1), .val (.ref a2), .val (.ref a3), .val (.ref a4), .val (.ref a5)] [])) _
    refine XS.aloadN X17.here hx rfl (hb hby d41_48) rfl rfl ?_
    refine XS.aload X17.here hx rfl (hb hby d41_49) rfl rfl ?_
    show Steps _ _ _ (T17.setTop (mkF m 51 #[.val (.ref a1), .val (.ref a2), .val (.ref a3), .val (.ref a4), .val (.ref a5)] [(.ref a5), (.ref a1)])) _
    refine st18 _ ?_
    show Steps _ _ _ (T18.setTop (mkF m 54 #[.val (.ref a1), .val (.ref a2), .val (.ref a3), .val (.ref a4), .val (.ref a5)] [])) _
    exact X18.returnOut hx Bd.returns (hb hby d41_54) hr
  · show Q_tinit Z a1 a2 a3 a4 a5 u_source_a1 u_stimulus_a1 u_reaction_a1 u_target_a1 h0 n0 _ T18.heap _
    rw [e18]
    exact ⟨rfl, N18, K18, ((((((((E_a1.ext E7).ext E9).ext E11).ext E13).wr W15).wr W16).wr W17).wr W18)⟩
theorem d19_0 : decode prog_16_method_1_code 0 = .ok (.aload_n 0, 1) := by decide +kernel
theorem d19_1 : decode prog_16_method_1_code 1 = .ok (.invokespecial 1, 3) := by decide +kernel
theorem d19_4 : decode prog_16_method_1_code 4 = .ok (.aload_n 1, 1) := by decide +kernel
theorem d19_5 : decode prog_16_method_1_code 5 = .ok (.ldc 7, 2) := by decide +kernel
theorem d19_7 : decode prog_16_method_1_code 7 = .ok (.invokestatic 9, 3) := by decide +kernel
theorem d19_10 : decode prog_16_method_1_code 10 = .ok (.pop, 1) := by decide +kernel
theorem d19_11 : decode prog_16_method_1_code 11 = .ok (.aload_n 2, 1) := by decide +kernel
theorem d19_12 : decode prog_16_method_1_code 12 = .ok (.invokestatic 15, 3) := by decide +kernel
theorem d19_15 : decode prog_16_method_1_code 15 = .ok (.astore_n 2, 1) := by decide +kernel
theorem d19_16 : decode prog_16_method_1_code 16 = .ok (.aload_n 3, 1) := by decide +kernel
theorem d19_17 : decode prog_16_method_1_code 17 = .ok (.invokestatic 21, 3) := by decide +kernel
theorem d19_20 : decode prog_16_method_1_code 20 = .ok (.astore_n 3, 1) := by decide +kernel
theorem d19_21 : decode prog_16_method_1_code 21 = .ok (.aload_n 3, 1) := by decide +kernel
theorem d19_22 : decode prog_16_method_1_code 22 = .ok (.invokeinterface 26 1, 5) := by decide +kernel
theorem d19_27 : decode prog_16_method_1_code 27 = .ok (.ifCond .ne 8, 3) := by decide +kernel
theorem d19_35 : decode prog_16_method_1_code 35 = .ok (.aload_n 0, 1) := by decide +kernel
theorem d19_36 : decode prog_16_method_1_code 36 = .ok (.aload_n 1, 1) := by decide +kernel
theorem d19_37 : decode prog_16_method_1_code 37 = .ok (.putfield 36, 3) := by decide +kernel
theorem d19_40 : decode prog_16_method_1_code 40 = .ok (.aload_n 0, 1) := by decide +kernel
theorem d19_41 : decode prog_16_method_1_code 41 = .ok (.aload_n 2, 1) := by decide +kernel
theorem d19_42 : decode prog_16_method_1_code 42 = .ok (.putfield 39, 3) := by decide +kernel
theorem d19_45 : decode prog_16_method_1_code 45 = .ok (.aload_n 0, 1) := by decide +kernel
theorem d19_46 : decode prog_16_method_1_code 46 = .ok (.aload_n 3, 1) := by decide +kernel
theorem d19_47 : decode prog_16_method_1_code 47 = .ok (.putfield 43, 3) := by decide +kernel
theorem d19_50 : decode prog_16_method_1_code 50 = .ok (.return_, 1) := by decide +kernel
theorem pn_19 : plainName "com/example/arcrover/arcrover/StateMachine" = true := by first | (simp [plainName, overriddenIn]; done) | decide +kernel
theorem pd_19_4 : parseMethodDescriptor "()V" = some ⟨[], none⟩ := by decide +kernel
theorem pd_19_15 : parseMethodDescriptor "(Ljava/lang/Object;Ljava/lang/String;)Ljava/lang/Object;" = some ⟨[(.object "java/lang/Object"), (.object "java/lang/String")], some (.object "java/lang/Object")⟩ := by decide +kernel
theorem pd_19_16 : parseMethodDescriptor "(Ljava/util/Collection;)Ljava/util/List;" = some ⟨[(.object "java/util/Collection")], some (.object "java/util/List")⟩ := by decide +kernel
theorem pd_19_19 : parseMethodDescriptor "(Ljava/util/Map;)Ljava/util/Map;" = some ⟨[(.object "java/util/Map")], some (.object "java/util/Map")⟩ := by decide +kernel
theorem pd_19_17 : parseMethodDescriptor "()Z" = some ⟨[], some .boolean⟩ := by decide +kernel
theorem ef_19 (m : MethodId) (x0 : Addr) (x1 : Addr) (x2 : Addr) (x3 : Addr) : entryFrame m #[(.ref x0), (.ref x1), (.ref x2), (.ref x3)] 4 = mkF m 0 #[.val (.ref x0), .val (.ref x1), .val (.ref x2), .val (.ref x3)] [] := by first | (simp [entryFrame, mkF, argsToLocals, Value.category]; done) | rfl
def Q_sm3_0 (Z : State) (a1 : Addr) (a2 : Addr) (a3 : Addr) (a4 : Addr) (wL : Addr) (u_initial_a1 : Value) (u_transitions_a1 : Value) (u_probabilities_a1 : Value) (h0 : Heap) (n0 : Nat) (v : Option Value) (h : Heap) (L : List Loc) : Prop := ∃ bL, v = none ∧ Fr n0 L ∧ Keep h0 h [a1] ∧ Exa Z h a1 "com/example/arcrover/arcrover/StateMachine" ∧ Fld Z h a1 "com/example/arcrover/arcrover/StateMachine" "transitions" "Ljava/util/List;" (.ref bL) ∧ bL = wL
theorem rm_sm3_0 (l : Launch) (Z : State) (a0 : Array Value) (hw : ∀ d ∈ tables_1, d.before a0 Z = true) (ws : List Jvm.Cond) (a1 : Addr) (a2 : Addr) (a3 : Addr) (a4 : Addr) (wL : Addr) (u_initial_a1 : Value) (u_transitions_a1 : Value) (u_probabilities_a1 : Value) (h0 : Heap) (n0 : Nat) (Z0 : n0 ≤ h0.size) (Ol : Old Z n0 h0) (S_EMPTY_LIST : Sta Z Z.heap "java/util/ImmutableCollections" "EMPTY_LIST" "Ljava/util/ImmutableCollections$ListN;" (.ref wL)) (E_a3 : Exa Z h0 a3 "java/util/ArrayList") (Fs_a3 : Fld Z h0 a3 "java/util/ArrayList" "size" "I" (.int (0 : Int32))) (E_m : Exa Z h0 a4 "java/util/ImmutableCollections$MapN") (F_m : Fld Z h0 a4 "java/util/ImmutableCollections$MapN" "size" "I" (.int (0 : Int32))) (E_a1 : Exa Z h0 a1 "com/example/arcrover/arcrover/StateMachine") (F_initial_a1 : Fld Z h0 a1 "com/example/arcrover/arcrover/StateMachine" "initial" "Ljava/lang/String;" u_initial_a1) (g_a1 : n0 ≤ a1) (F_transitions_a1 : Fld Z h0 a1 "com/example/arcrover/arcrover/StateMachine" "transitions" "Ljava/util/List;" u_transitions_a1) (F_probabilities_a1 : Fld Z h0 a1 "com/example/arcrover/arcrover/StateMachine" "probabilities" "Ljava/util/Map;" u_probabilities_a1) :
    MetFree l own_y7 (head1 (Jvm.Cond.code own_y7 prog_16_method_1_code 4 none :: ws) own_r35) (fun a U => a = #[(.ref a1), (.ref a2), (.ref a3), (.ref a4)] ∧ Z.Warmed39 U.vm ∧ U.heap = h0) (fun _ _ _ _ _ => True) (fun _ U o U' => ∃ v L, o = .returned v ∧ Q_sm3_0 Z a1 a2 a3 a4 wL u_initial_a1 u_transitions_a1 u_probabilities_a1 h0 n0 v U'.heap L ∧ ReturnedEndW U o U' L own_r35.cells own_r35.slots) := by
  refine MetFree.of_bodySF (plainFor_of_name pn_19) hisR ?_
  intro p e s m args below meth c s₁ Bd hml0 hP hK
  obtain ⟨rfl, hZ, hh⟩ := hP
  have hx := Bd.exec
  have hby := Bd.bytes
  have hml : c.maxLocals = 4 := hml0
  have hown : s.vm.findClass "com/example/arcrover/arcrover/StateMachine" = some m.cls := findClass_of_methodNamed Bd.named
  have hnm := (name_of_methodNamed Bd.named Bd.method).1
  have X0 : Stand p l e own_r35 (s.setVm s.vm) m #[(.ref a1), (.ref a2), (.ref a3), (.ref a4)] below meth c s₁ [] 0 0 := Stand.of_body Bd
  have hS : s.Since s.vm s.heap.size := (State.WarmedH.refl s).since s.heap.size
  have hk : s.heap.size ≤ h0.size := Nat.le_of_eq (congrArg Array.size hh)
  have e0 : s₁.heap = h0 := by rw [← hh, Bd.state]; rfl
  have N0 := Fr.nil n0
  have pre0 : ∀ t, Steps p.tables e below (s₁.setTop (mkF m 0 #[.val (.ref a1), .val (.ref a2), .val (.ref a3), .val (.ref a4)] [])) t → Steps p.tables e below (s₁.setTop (entryFrame m #[(.ref a1), (.ref a2), (.ref a3), (.ref a4)] 4)) t := fun t k => castTop (ef_19 m a1 a2 a3 a4) k
  obtain ⟨_, _, ⟨T5, L5, k5, n5⟩, -, X5, ⟨Lc5, hQ5, l5, y5, z5⟩, st5⟩ := X0.specialBack hx (y := own_y16) rfl hown (mvT hZ (own_w hw 123 rfl)) (mvT hZ (own_w hw 124 rfl)) (mvT hZ (own_w hw 127 rfl)) (by decide) (backOf (W := 0) (rm_rec l Z a0 hw [] a1  h0 n0 Z0) hZ (own_w hw 127 rfl) (own_w hw 126 rfl) (by decide) (by decide)) (g := (mkF m 1 #[.val (.ref a1), .val (.ref a2), .val (.ref a3), .val (.ref a4)] [(.ref a1)])) rfl (by rw [hml]; rfl) (Steps.refl _) (a := a1) (argsL := []) (rest := []) (lenOf pd_19_4 rfl) rfl (Nat.le_of_eq rfl) (hb hby d19_1) (fun _ _ => ⟨rfl, e0, (by decide : 0 + 0 ≤ _), (by decide : 0 + 0 ≤ _)⟩)
  dsimp only [Pt.U, Pt.locs, Pt.cells, Pt.slots] at X5 l5 y5 z5 st5 hQ5
  subst l5 y5 z5
  obtain ⟨rfl, N5q, K5⟩ := hQ5
  have N5 := Fr.app N0 N5q
  obtain ⟨aS6, T6, h6, k6, X6, e6, E6, hS, hk, hZ, hown, st6⟩ := ldcS X5 hx hZ hown (own_w hw 129 rfl) (own_wS hw) K5 hS hk (g := (mkF m 5 #[.val (.ref a1), .val (.ref a2), .val (.ref a3), .val (.ref a4)] [(.ref a2)])) rfl (hb hby d19_5) (n := 28) (by decide) (by decide) (by decide) (by decide)
  have Kc6 : Keep h0 h6 [a1] := (Keep.refl h0 [a1]).ext E6
  obtain ⟨_, _, ⟨T7, L7, k7, n7⟩, -, X7, ⟨Lc7, hQ7, l7, y7, z7⟩, st7⟩ := Jvm.LawKit.callS X6 hx (y := own_y9) hown (mvT hZ (own_w hw 132 rfl)) (mvT hZ (own_w hw 133 rfl)) (mvT hZ (own_w hw 134 rfl)) (mvT hZ (own_w hw 135 rfl)) (by decide) (backOf (W := 0) (rm_rnn2 l Z a0 hw [] a2 aS6  h6 n0 (Nat.le_trans Z0 E6.1)) hZ (own_w hw 135 rfl) (own_w hw 134 rfl) (by decide) (by decide)) (g := (mkF m 7 #[.val (.ref a1), .val (.ref a2), .val (.ref a3), .val (.ref a4)] [(.ref aS6), (.ref a2)])) rfl (by rw [hml]; rfl) (argsL := [(.ref a2), (.ref aS6)]) (rest := []) (lenOf pd_19_15 rfl) rfl (Nat.le_of_eq rfl) (hb hby d19_7) (fun _ _ => ⟨rfl, e6, (by decide : 2 + 0 ≤ _), (by decide : 32 + 0 ≤ _)⟩)
  dsimp only [Pt.U, Pt.locs, Pt.cells, Pt.slots] at X7 l7 y7 z7 st7 hQ7
  subst l7 y7 z7
  obtain ⟨rfl, N7q, K7⟩ := hQ7
  have N7 := Fr.app N5 N7q
  obtain ⟨_, _, ⟨T8, L8, k8, n8⟩, -, X8, ⟨Lc8, hQ8, l8, y8, z8⟩, st8⟩ := Jvm.LawKit.callS X7 hx (y := own_y5) hown (mvT hZ (own_w hw 136 rfl)) (mvT hZ (own_w hw 137 rfl)) (mvT hZ (own_w hw 138 rfl)) (mvT hZ (own_w hw 139 rfl)) (by decide) (backOf (W := 0) (rm_cof0 l Z a0 hw [] a3 wL h6 n0 (Nat.le_trans Z0 E6.1) (Ol.ext E6) S_EMPTY_LIST (E_a3.ext E6) (Fs_a3.ext E6)) hZ (own_w hw 139 rfl) (own_w hw 138 rfl) (by decide) (by decide)) (g := (mkF m 12 #[.val (.ref a1), .val (.ref a2), .val (.ref a3), .val (.ref a4)] [(.ref a3)])) rfl (by rw [hml]; rfl) (argsL := [(.ref a3)]) (rest := []) (lenOf pd_19_16 rfl) rfl (Nat.le_of_eq rfl) (hb hby d19_12) (fun _ _ => ⟨rfl, K7, (by decide : 2 + 0 ≤ _), (by decide : 32 + 0 ≤ _)⟩)
  dsimp only [Pt.U, Pt.locs, Pt.cells, Pt.slots] at X8 l8 y8 z8 st8 hQ8
  subst l8 y8 z8
  obtain ⟨rfl, N8q, K8⟩ := hQ8
  have N8 := Fr.app N7 N8q
  obtain ⟨_, _, ⟨T9, L9, k9, n9⟩, -, X9, ⟨Lc9, hQ9, l9, y9, z9⟩, st9⟩ := Jvm.LawKit.callS X8 hx (y := own_y22) hown (mvT hZ (own_w hw 162 rfl)) (mvT hZ (own_w hw 163 rfl)) (mvT hZ (own_w hw 116 rfl)) (mvT hZ (own_w hw 164 rfl)) (by decide) (backOf (W := 0) (rm_mcopy l Z a0 hw [] a4  h6 n0 (Nat.le_trans Z0 E6.1) (E_m.ext E6)) hZ (own_w hw 164 rfl) (own_w hw 116 rfl) (by decide) (by decide)) (g := (mkF m 17 #[.val (.ref a1), .val (.ref a2), .val (.ref wL), .val (.ref a4)] [(.ref a4)])) rfl (by rw [hml]; rfl) (argsL := [(.ref a4)]) (rest := []) (lenOf pd_19_19 rfl) rfl (Nat.le_of_eq rfl) (hb hby d19_17) (fun _ _ => ⟨rfl, K8, (by decide : 2 + 0 ≤ _), (by decide : 32 + 0 ≤ _)⟩)
  dsimp only [Pt.U, Pt.locs, Pt.cells, Pt.slots] at X9 l9 y9 z9 st9 hQ9
  subst l9 y9 z9
  obtain ⟨rfl, N9q, K9⟩ := hQ9
  have N9 := Fr.app N8 N9q
  obtain ⟨cq10, kq10, q10a, q10b, q10c⟩ := isOf hZ K9 (E_m.ext E6)
  obtain ⟨_, _, ⟨T10, L10, k10, n10⟩, -, X10, ⟨Lc10, hQ10, l10, y10, z10⟩, st10⟩ := X9.interfaceBack hx (xi := own_y33) (y := own_y23) hown (mvT hZ (own_w hw 167 rfl)) (mvT hZ (own_w hw 168 rfl)) (mvT hZ (own_w hw 169 rfl)) (mvT hZ (own_w hw 170 rfl)) (mvT hZ (own_w hw 171 rfl)) (mvT hZ (own_w hw 172 rfl)) (mvT hZ (own_w hw 173 rfl)) (mvT hZ (own_w hw 174 rfl)) (by decide) (backOf (W := 0) (rm_mempty l Z a0 hw [] a4  h6 n0 (Nat.le_trans Z0 E6.1) (F_m.ext E6)) hZ (own_w hw 176 rfl) (own_w hw 175 rfl) (by decide) (by decide)) q10a q10b q10c (g := (mkF m 22 #[.val (.ref a1), .val (.ref a2), .val (.ref wL), .val (.ref a4)] [(.ref a4)])) rfl (by rw [hml]; rfl) (Steps.refl _) (argsL := []) (rest := []) (lenOf pd_19_17 rfl) rfl (Nat.le_of_eq rfl) (hb hby d19_22) (fun _ _ => ⟨rfl, K9, (by decide : 2 + 0 ≤ _), (by decide : 32 + 0 ≤ _)⟩)
  dsimp only [Pt.U, Pt.locs, Pt.cells, Pt.slots] at X10 l10 y10 z10 st10 hQ10
  subst l10 y10 z10
  obtain ⟨rfl, N10q, K10⟩ := hQ10
  have N10 := Fr.app N9 N10q
  obtain ⟨T11, h11, X11, e11, W11, st11⟩ := putF X10 hx hZ hown (host := "") (Or.inl (own_w hw 179 rfl)) Via.refl K10 (F_initial_a1.ext E6) (E_a1.ext E6) (Or.inr ⟨(own_w hw 180 rfl), rfl, hnm⟩) (own_w hw 109 rfl) (ty := (.object "java/lang/String")) (by decide) rfl rfl (g := (mkF m 37 #[.val (.ref a1), .val (.ref a2), .val (.ref wL), .val (.ref a4)] [(.ref a2), (.ref a1)])) rfl rfl (hb hby d19_37)
  have Fw11 := (F_initial_a1.ext E6).same W11
  have K11 : Keep h0 h11 [a1] := Kc6.wr W11 (Or.inl (List.mem_of_getElem? (i := 0) rfl))
  have N11 := Fr.snoc X11 N10 g_a1
  obtain ⟨T12, h12, X12, e12, W12, st12⟩ := putF X11 hx hZ hown (host := "") (Or.inl (own_w hw 181 rfl)) Via.refl e11 ((F_transitions_a1.ext E6).other W11 (Or.inr (slot_ne (Or.inr (own_w hw 182 rfl)) (Or.inr (own_w hw 180 rfl)) (by decide) (t := (.object "java/util/List")) (t' := (.object "java/lang/String")) (by decide) (by decide)))) ((E_a1.ext E6).wr W11) (Or.inr ⟨(own_w hw 182 rfl), rfl, hnm⟩) (own_w hw 109 rfl) (ty := (.object "java/util/List")) (by decide) rfl rfl (g := (mkF m 42 #[.val (.ref a1), .val (.ref a2), .val (.ref wL), .val (.ref a4)] [(.ref wL), (.ref a1)])) rfl rfl (hb hby d19_42)
  have Fw12 := ((F_transitions_a1.ext E6).other W11 (Or.inr (slot_ne (Or.inr (own_w hw 182 rfl)) (Or.inr (own_w hw 180 rfl)) (by decide) (t := (.object "java/util/List")) (t' := (.object "java/lang/String")) (by decide) (by decide)))).same W12
  have K12 : Keep h0 h12 [a1] := K11.wr W12 (Or.inl (List.mem_of_getElem? (i := 0) rfl))
  have N12 := Fr.snoc X12 N11 g_a1
  obtain ⟨T13, h13, X13, e13, W13, st13⟩ := putF X12 hx hZ hown (host := "") (Or.inl (own_w hw 183 rfl)) Via.refl e12 (((F_probabilities_a1.ext E6).other W11 (Or.inr (slot_ne (Or.inr (own_w hw 184 rfl)) (Or.inr (own_w hw 180 rfl)) (by decide) (t := (.object "java/util/Map")) (t' := (.object "java/lang/String")) (by decide) (by decide)))).other W12 (Or.inr (slot_ne (Or.inr (own_w hw 184 rfl)) (Or.inr (own_w hw 182 rfl)) (by decide) (t := (.object "java/util/Map")) (t' := (.object "java/util/List")) (by decide) (by decide)))) (((E_a1.ext E6).wr W11).wr W12) (Or.inr ⟨(own_w hw 184 rfl), rfl, hnm⟩) (own_w hw 109 rfl) (ty := (.object "java/util/Map")) (by decide) rfl rfl (g := (mkF m 47 #[.val (.ref a1), .val (.ref a2), .val (.ref wL), .val (.ref a4)] [(.ref a4), (.ref a1)])) rfl rfl (hb hby d19_47)
  have Fw13 := (((F_probabilities_a1.ext E6).other W11 (Or.inr (slot_ne (Or.inr (own_w hw 184 rfl)) (Or.inr (own_w hw 180 rfl)) (by decide) (t := (.object "java/util/Map")) (t' := (.object "java/lang/String")) (by decide) (by decide)))).other W12 (Or.inr (slot_ne (Or.inr (own_w hw 184 rfl)) (Or.inr (own_w hw 182 rfl)) (by decide) (t := (.object "java/util/Map")) (t' := (.object "java/util/List")) (by decide) (by decide)))).same W13
  have K13 : Keep h0 h13 [a1] := K12.wr W13 (Or.inl (List.mem_of_getElem? (i := 0) rfl))
  have N13 := Fr.snoc X13 N12 g_a1
  have hkEnd := Nat.le_trans (Nat.le_trans (Nat.le_trans (Nat.le_trans hk (Keep.of_wr W11).1) (Keep.of_wr W12).1) (Keep.of_wr W13).1) (Nat.le_of_eq (congrArg Array.size e13).symm)
  obtain ⟨fs, hr, hrun, hended, hEW⟩ := X13.leaveW hS hkEnd (v := none) (fun _ => rfl)
  refine ⟨_, _, pre0 _ ?_, hrun, hended, _, _, rfl, ?_, hEW.1, hEW.2.1, hEW.2.2.1, hEW.2.2.2.mono (by decide) (by decide)⟩
  · show Steps _ _ _ (s₁.setTop (mkF m 0 #[.val (.ref a1), .val (.ref a2), .val (.ref a3), .val (.ref a4)] [])) _
    refine XS.aloadN X0.here hx rfl (hb hby d19_0) rfl rfl ?_
    show Steps _ _ _ (s₁.setTop (mkF m 1 #[.val (.ref a1), .val (.ref a2), .val (.ref a3), .val (.ref a4)] [(.ref a1)])) _
    refine st5.trans ?_
    show Steps _ _ _ (T5.setTop (mkF m 4 #[.val (.ref a1), .val (.ref a2), .val (.ref a3), .val (.ref a4)] [])) _
    refine XS.aloadN X5.here hx rfl (hb hby d19_4) rfl rfl ?_
    show Steps _ _ _ (T5.setTop (mkF m 5 #[.val (.ref a1), .val (.ref a2), .val (.ref a3), .val (.ref a4)] [(.ref a2)])) _
    refine st6 _ ?_
    show Steps _ _ _ (T6.setTop (mkF m 7 #[.val (.ref a1), .val (.ref a2), .val (.ref a3), .val (.ref a4)] [(.ref aS6), (.ref a2)])) _
    refine st7 _ ?_
    show Steps _ _ _ (T7.setTop (mkF m 10 #[.val (.ref a1), .val (.ref a2), .val (.ref a3), .val (.ref a4)] [(.ref a2)])) _
    refine XS.pop X7.here hx rfl (hb hby d19_10) rfl rfl ?_
    refine XS.aloadN X7.here hx rfl (hb hby d19_11) rfl rfl ?_
    show Steps _ _ _ (T7.setTop (mkF m 12 #[.val (.ref a1), .val (.ref a2), .val (.ref a3), .val (.ref a4)] [(.ref a3)])) _
    refine st8 _ ?_
    show Steps _ _ _ (T8.setTop (mkF m 15 #[.val (.ref a1), .val (.ref a2), .val (.ref a3), .val (.ref a4)] [(.ref wL)])) _
    refine XS.astoreN X8.here hx rfl (hb hby d19_15) rfl rfl (l' := #[.val (.ref a1), .val (.ref a2), .val (.ref wL), .val (.ref a4)]) rfl ?_
    refine XS.aloadN X8.here hx rfl (hb hby d19_16) rfl rfl ?_
    show Steps _ _ _ (T8.setTop (mkF m 17 #[.val (.ref a1), .val (.ref a2), .val (.ref wL), .val (.ref a4)] [(.ref a4)])) _
    refine st9 _ ?_
    show Steps _ _ _ (T9.setTop (mkF m 20 #[.val (.ref a1), .val (.ref a2), .val (.ref wL), .val (.ref a4)] [(.ref a4)])) _
    refine XS.astoreN X9.here hx rfl (hb hby d19_20) rfl rfl (l' := #[.val (.ref a1), .val (.ref a2), .val (.ref wL), .val (.ref a4)]) rfl ?_
    refine XS.aloadN X9.here hx rfl (hb hby d19_21) rfl rfl ?_
    show Steps _ _ _ (T9.setTop (mkF m 22 #[.val (.ref a1), .val (.ref a2), .val (.ref wL), .val (.ref a4)] [(.ref a4)])) _
    refine st10.trans ?_
    show Steps _ _ _ (T10.setTop (mkF m 27 #[.val (.ref a1), .val (.ref a2), .val (.ref wL), .val (.ref a4)] [(.int (1 : Int32))])) _
    refine XS.ifYes X10.here hx rfl (pc0 := 27) (pc' := 35) rfl (hb hby d19_27) rfl ((if0 _ _).trans (feq (by decide : ¬ ((1 : Int32) = (0 : Int32)))).2) (by decide) (by decide) ?_
    refine XS.aloadN X10.here hx rfl (hb hby d19_35) rfl rfl ?_
    refine XS.aloadN X10.here hx rfl (hb hby d19_36) rfl rfl ?_
    show Steps _ _ _ (T10.setTop (mkF m 37 #[.val (.ref a1), .val (.ref a2), .val (.ref wL), .val (.ref a4)] [(.ref a2), (.ref a1)])) _
    refine st11 _ ?_
    show Steps _ _ _ (T11.setTop (mkF m 40 #[.val (.ref a1), .val (.ref a2), .val (.ref wL), .val (.ref a4)] [])) _
    refine XS.aloadN X11.here hx rfl (hb hby d19_40) rfl rfl ?_
    refine XS.aloadN X11.here hx rfl (hb hby d19_41) rfl rfl ?_
    show Steps _ _ _ (T11.setTop (mkF m 42 #[.val (.ref a1), .val (.ref a2), .val (.ref wL), .val (.ref a4)] [(.ref wL), (.ref a1)])) _
    refine st12 _ ?_
    show Steps _ _ _ (T12.setTop (mkF m 45 #[.val (.ref a1), .val (.ref a2), .val (.ref wL), .val (.ref a4)] [])) _
    refine XS.aloadN X12.here hx rfl (hb hby d19_45) rfl rfl ?_
    refine XS.aloadN X12.here hx rfl (hb hby d19_46) rfl rfl ?_
    show Steps _ _ _ (T12.setTop (mkF m 47 #[.val (.ref a1), .val (.ref a2), .val (.ref wL), .val (.ref a4)] [(.ref a4), (.ref a1)])) _
    refine st13 _ ?_
    show Steps _ _ _ (T13.setTop (mkF m 50 #[.val (.ref a1), .val (.ref a2), .val (.ref wL), .val (.ref a4)] [])) _
    exact X13.returnOut hx Bd.returns (hb hby d19_50) hr
  · show Q_sm3_0 Z a1 a2 a3 a4 wL u_initial_a1 u_transitions_a1 u_probabilities_a1 h0 n0 _ T13.heap _
    rw [e13]
    exact ⟨wL, rfl, N13, K13, ((((E_a1.ext E6).wr W11).wr W12).wr W13), (Fw12.other W13 (Or.inr (slot_ne (Or.inr (own_w hw 182 rfl)) (Or.inr (own_w hw 184 rfl)) (by decide) (t := (.object "java/util/List")) (t' := (.object "java/util/Map")) (by decide) (by decide)))), rfl⟩
def Q_sm3_1 (Z : State) (a1 : Addr) (a2 : Addr) (a3 : Addr) (a4 : Addr) (kA : ClassId) (vs : List Value) (t0 : Addr) (aE : Addr) (aM : Addr) (wO : Addr) (u_initial_a1 : Value) (u_transitions_a1 : Value) (u_probabilities_a1 : Value) (h0 : Heap) (n0 : Nat) (v : Option Value) (h : Heap) (L : List Loc) : Prop := ∃ bL, v = none ∧ Fr n0 L ∧ Keep h0 h [a1] ∧ Exa Z h a1 "com/example/arcrover/arcrover/StateMachine" ∧ Fld Z h a1 "com/example/arcrover/arcrover/StateMachine" "transitions" "Ljava/util/List;" (.ref bL) ∧ Exa Z h bL "java/util/ImmutableCollections$List12" ∧ Fld Z h bL "java/util/ImmutableCollections$List12" "e1" "Ljava/lang/Object;" (.ref wO)
theorem rm_sm3_1 (l : Launch) (Z : State) (a0 : Array Value) (hw : ∀ d ∈ tables_1, d.before a0 Z = true) (ws : List Jvm.Cond) (a1 : Addr) (a2 : Addr) (a3 : Addr) (a4 : Addr) (kA : ClassId) (vs : List Value) (t0 : Addr) (aE : Addr) (aM : Addr) (wO : Addr) (u_initial_a1 : Value) (u_transitions_a1 : Value) (u_probabilities_a1 : Value) (h0 : Heap) (n0 : Nat) (Z0 : n0 ≤ h0.size) (Ol : Old Z n0 h0) (S_EMPTY : Sta Z Z.heap "java/util/ImmutableCollections" "EMPTY" "Ljava/lang/Object;" (.ref wO)) (E_a3 : Exa Z h0 a3 "java/util/ArrayList") (Fe_a3 : Fld Z h0 a3 "java/util/ArrayList" "elementData" "[Ljava/lang/Object;" (.ref aE)) (Fs_a3 : Fld Z h0 a3 "java/util/ArrayList" "size" "I" (.int (1 : Int32))) (V_aE : Arv Z h0 aE kA (.object "java/lang/Object") (10 : Int32) vs .null) (E_aE : Exa Z h0 aE "[Ljava/lang/Object;") (Mr : own_mir Z "[Ljava/lang/Object;" aM) (hv0 : vs.getD 0 .null = .ref t0) (I_t0 : Ins Z h0 t0 "java/lang/Object" true) (E_m : Exa Z h0 a4 "java/util/ImmutableCollections$MapN") (F_m : Fld Z h0 a4 "java/util/ImmutableCollections$MapN" "size" "I" (.int (0 : Int32))) (E_a1 : Exa Z h0 a1 "com/example/arcrover/arcrover/StateMachine") (F_initial_a1 : Fld Z h0 a1 "com/example/arcrover/arcrover/StateMachine" "initial" "Ljava/lang/String;" u_initial_a1) (g_a1 : n0 ≤ a1) (F_transitions_a1 : Fld Z h0 a1 "com/example/arcrover/arcrover/StateMachine" "transitions" "Ljava/util/List;" u_transitions_a1) (F_probabilities_a1 : Fld Z h0 a1 "com/example/arcrover/arcrover/StateMachine" "probabilities" "Ljava/util/Map;" u_probabilities_a1) :
    MetFree l own_y7 (head1 (Jvm.Cond.code own_y7 prog_16_method_1_code 4 none :: ws) own_r36) (fun a U => a = #[(.ref a1), (.ref a2), (.ref a3), (.ref a4)] ∧ Z.Warmed39 U.vm ∧ U.heap = h0) (fun _ _ _ _ _ => True) (fun _ U o U' => ∃ v L, o = .returned v ∧ Q_sm3_1 Z a1 a2 a3 a4 kA vs t0 aE aM wO u_initial_a1 u_transitions_a1 u_probabilities_a1 h0 n0 v U'.heap L ∧ ReturnedEndW U o U' L own_r36.cells own_r36.slots) := by
  refine MetFree.of_bodySF (plainFor_of_name pn_19) hisR ?_
  intro p e s m args below meth c s₁ Bd hml0 hP hK
  obtain ⟨rfl, hZ, hh⟩ := hP
  have hx := Bd.exec
  have hby := Bd.bytes
  have hml : c.maxLocals = 4 := hml0
  have hown : s.vm.findClass "com/example/arcrover/arcrover/StateMachine" = some m.cls := findClass_of_methodNamed Bd.named
  have hnm := (name_of_methodNamed Bd.named Bd.method).1
  have X0 : Stand p l e own_r36 (s.setVm s.vm) m #[(.ref a1), (.ref a2), (.ref a3), (.ref a4)] below meth c s₁ [] 0 0 := Stand.of_body Bd
  have hS : s.Since s.vm s.heap.size := (State.WarmedH.refl s).since s.heap.size
  have hk : s.heap.size ≤ h0.size := Nat.le_of_eq (congrArg Array.size hh)
  have e0 : s₁.heap = h0 := by rw [← hh, Bd.state]; rfl
  have N0 := Fr.nil n0
  have pre0 : ∀ t, Steps p.tables e below (s₁.setTop (mkF m 0 #[.val (.ref a1), .val (.ref a2), .val (.ref a3), .val (.ref a4)] [])) t → Steps p.tables e below (s₁.setTop (entryFrame m #[(.ref a1), (.ref a2), (.ref a3), (.ref a4)] 4)) t := fun t k => castTop (ef_19 m a1 a2 a3 a4) k
  obtain ⟨_, _, ⟨T5, L5, k5, n5⟩, -, X5, ⟨Lc5, hQ5, l5, y5, z5⟩, st5⟩ := X0.specialBack hx (y := own_y16) rfl hown (mvT hZ (own_w hw 123 rfl)) (mvT hZ (own_w hw 124 rfl)) (mvT hZ (own_w hw 127 rfl)) (by decide) (backOf (W := 0) (rm_rec l Z a0 hw [] a1  h0 n0 Z0) hZ (own_w hw 127 rfl) (own_w hw 126 rfl) (by decide) (by decide)) (g := (mkF m 1 #[.val (.ref a1), .val (.ref a2), .val (.ref a3), .val (.ref a4)] [(.ref a1)])) rfl (by rw [hml]; rfl) (Steps.refl _) (a := a1) (argsL := []) (rest := []) (lenOf pd_19_4 rfl) rfl (Nat.le_of_eq rfl) (hb hby d19_1) (fun _ _ => ⟨rfl, e0, (by decide : 0 + 0 ≤ _), (by decide : 0 + 0 ≤ _)⟩)
  dsimp only [Pt.U, Pt.locs, Pt.cells, Pt.slots] at X5 l5 y5 z5 st5 hQ5
  subst l5 y5 z5
  obtain ⟨rfl, N5q, K5⟩ := hQ5
  have N5 := Fr.app N0 N5q
  obtain ⟨aS6, T6, h6, k6, X6, e6, E6, hS, hk, hZ, hown, st6⟩ := ldcS X5 hx hZ hown (own_w hw 129 rfl) (own_wS hw) K5 hS hk (g := (mkF m 5 #[.val (.ref a1), .val (.ref a2), .val (.ref a3), .val (.ref a4)] [(.ref a2)])) rfl (hb hby d19_5) (n := 28) (by decide) (by decide) (by decide) (by decide)
  have Kc6 : Keep h0 h6 [a1] := (Keep.refl h0 [a1]).ext E6
  obtain ⟨_, _, ⟨T7, L7, k7, n7⟩, -, X7, ⟨Lc7, hQ7, l7, y7, z7⟩, st7⟩ := Jvm.LawKit.callS X6 hx (y := own_y9) hown (mvT hZ (own_w hw 132 rfl)) (mvT hZ (own_w hw 133 rfl)) (mvT hZ (own_w hw 134 rfl)) (mvT hZ (own_w hw 135 rfl)) (by decide) (backOf (W := 0) (rm_rnn2 l Z a0 hw [] a2 aS6  h6 n0 (Nat.le_trans Z0 E6.1)) hZ (own_w hw 135 rfl) (own_w hw 134 rfl) (by decide) (by decide)) (g := (mkF m 7 #[.val (.ref a1), .val (.ref a2), .val (.ref a3), .val (.ref a4)] [(.ref aS6), (.ref a2)])) rfl (by rw [hml]; rfl) (argsL := [(.ref a2), (.ref aS6)]) (rest := []) (lenOf pd_19_15 rfl) rfl (Nat.le_of_eq rfl) (hb hby d19_7) (fun _ _ => ⟨rfl, e6, (by decide : 2 + 0 ≤ _), (by decide : 32 + 0 ≤ _)⟩)
  dsimp only [Pt.U, Pt.locs, Pt.cells, Pt.slots] at X7 l7 y7 z7 st7 hQ7
  subst l7 y7 z7
  obtain ⟨rfl, N7q, K7⟩ := hQ7
  have N7 := Fr.app N5 N7q
  obtain ⟨_, _, ⟨T8, L8, k8, n8⟩, -, X8, ⟨Lc8, hQ8, l8, y8, z8⟩, st8⟩ := Jvm.LawKit.callS X7 hx (y := own_y5) hown (mvT hZ (own_w hw 136 rfl)) (mvT hZ (own_w hw 137 rfl)) (mvT hZ (own_w hw 138 rfl)) (mvT hZ (own_w hw 139 rfl)) (by decide) (backOf (W := 0) (rm_cof1 l Z a0 hw [] a3 kA vs t0 aE aM wO h6 n0 (Nat.le_trans Z0 E6.1) (Ol.ext E6) S_EMPTY (E_a3.ext E6) (Fe_a3.ext E6) (Fs_a3.ext E6) (V_aE.ext E6) (E_aE.ext E6) Mr hv0 (own_insK I_t0 Kc6)) hZ (own_w hw 139 rfl) (own_w hw 138 rfl) (by decide) (by decide)) (g := (mkF m 12 #[.val (.ref a1), .val (.ref a2), .val (.ref a3), .val (.ref a4)] [(.ref a3)])) rfl (by rw [hml]; rfl) (argsL := [(.ref a3)]) (rest := []) (lenOf pd_19_16 rfl) rfl (Nat.le_of_eq rfl) (hb hby d19_12) (fun _ _ => ⟨rfl, K7, (by decide : 2 + 2 ≤ _), (by decide : 32 + 3 ≤ _)⟩)
  dsimp only [Pt.U, Pt.locs, Pt.cells, Pt.slots] at X8 l8 y8 z8 st8 hQ8
  subst l8 y8 z8
  obtain ⟨bL, rfl, N8q, ExL, EaL, F1L⟩ := hQ8
  have N8 := Fr.app N7 N8q
  have Kc8 : Keep h0 T8.heap [a1] := Kc6.ext ExL
  have neL : a1 ≠ bL := ne_exa (((E_a1.ext E6).ext ExL)) EaL (by decide)
  obtain ⟨_, _, ⟨T9, L9, k9, n9⟩, -, X9, ⟨Lc9, hQ9, l9, y9, z9⟩, st9⟩ := Jvm.LawKit.callS X8 hx (y := own_y22) hown (mvT hZ (own_w hw 162 rfl)) (mvT hZ (own_w hw 163 rfl)) (mvT hZ (own_w hw 116 rfl)) (mvT hZ (own_w hw 164 rfl)) (by decide) (backOf (W := 0) (rm_mcopy l Z a0 hw [] a4  T8.heap n0 (Nat.le_trans (Nat.le_trans Z0 E6.1) ExL.1) ((E_m.ext E6).ext ExL)) hZ (own_w hw 164 rfl) (own_w hw 116 rfl) (by decide) (by decide)) (g := (mkF m 17 #[.val (.ref a1), .val (.ref a2), .val (.ref bL), .val (.ref a4)] [(.ref a4)])) rfl (by rw [hml]; rfl) (argsL := [(.ref a4)]) (rest := []) (lenOf pd_19_19 rfl) rfl (Nat.le_of_eq rfl) (hb hby d19_17) (fun _ _ => ⟨rfl, rfl, (by decide : 4 + 0 ≤ _), (by decide : 35 + 0 ≤ _)⟩)
  dsimp only [Pt.U, Pt.locs, Pt.cells, Pt.slots] at X9 l9 y9 z9 st9 hQ9
  subst l9 y9 z9
  obtain ⟨rfl, N9q, K9⟩ := hQ9
  have N9 := Fr.app N8 N9q
  obtain ⟨cq10, kq10, q10a, q10b, q10c⟩ := isOf hZ K9 ((E_m.ext E6).ext ExL)
  obtain ⟨_, _, ⟨T10, L10, k10, n10⟩, -, X10, ⟨Lc10, hQ10, l10, y10, z10⟩, st10⟩ := X9.interfaceBack hx (xi := own_y33) (y := own_y23) hown (mvT hZ (own_w hw 167 rfl)) (mvT hZ (own_w hw 168 rfl)) (mvT hZ (own_w hw 169 rfl)) (mvT hZ (own_w hw 170 rfl)) (mvT hZ (own_w hw 171 rfl)) (mvT hZ (own_w hw 172 rfl)) (mvT hZ (own_w hw 173 rfl)) (mvT hZ (own_w hw 174 rfl)) (by decide) (backOf (W := 0) (rm_mempty l Z a0 hw [] a4  T8.heap n0 (Nat.le_trans (Nat.le_trans Z0 E6.1) ExL.1) ((F_m.ext E6).ext ExL)) hZ (own_w hw 176 rfl) (own_w hw 175 rfl) (by decide) (by decide)) q10a q10b q10c (g := (mkF m 22 #[.val (.ref a1), .val (.ref a2), .val (.ref bL), .val (.ref a4)] [(.ref a4)])) rfl (by rw [hml]; rfl) (Steps.refl _) (argsL := []) (rest := []) (lenOf pd_19_17 rfl) rfl (Nat.le_of_eq rfl) (hb hby d19_22) (fun _ _ => ⟨rfl, K9, (by decide : 4 + 0 ≤ _), (by decide : 35 + 0 ≤ _)⟩)
  dsimp only [Pt.U, Pt.locs, Pt.cells, Pt.slots] at X10 l10 y10 z10 st10 hQ10
  subst l10 y10 z10
  obtain ⟨rfl, N10q, K10⟩ := hQ10
  have N10 := Fr.app N9 N10q
  obtain ⟨T11, h11, X11, e11, W11, st11⟩ := putF X10 hx hZ hown (host := "") (Or.inl (own_w hw 179 rfl)) Via.refl K10 ((F_initial_a1.ext E6).ext ExL) ((E_a1.ext E6).ext ExL) (Or.inr ⟨(own_w hw 180 rfl), rfl, hnm⟩) (own_w hw 109 rfl) (ty := (.object "java/lang/String")) (by decide) rfl rfl (g := (mkF m 37 #[.val (.ref a1), .val (.ref a2), .val (.ref bL), .val (.ref a4)] [(.ref a2), (.ref a1)])) rfl rfl (hb hby d19_37)
  have Fw11 := ((F_initial_a1.ext E6).ext ExL).same W11
  have K11 : Keep h0 h11 [a1] := Kc8.wr W11 (Or.inl (List.mem_of_getElem? (i := 0) rfl))
  have N11 := Fr.snoc X11 N10 g_a1
  obtain ⟨T12, h12, X12, e12, W12, st12⟩ := putF X11 hx hZ hown (host := "") (Or.inl (own_w hw 181 rfl)) Via.refl e11 (((F_transitions_a1.ext E6).ext ExL).other W11 (Or.inr (slot_ne (Or.inr (own_w hw 182 rfl)) (Or.inr (own_w hw 180 rfl)) (by decide) (t := (.object "java/util/List")) (t' := (.object "java/lang/String")) (by decide) (by decide)))) (((E_a1.ext E6).ext ExL).wr W11) (Or.inr ⟨(own_w hw 182 rfl), rfl, hnm⟩) (own_w hw 109 rfl) (ty := (.object "java/util/List")) (by decide) rfl rfl (g := (mkF m 42 #[.val (.ref a1), .val (.ref a2), .val (.ref bL), .val (.ref a4)] [(.ref bL), (.ref a1)])) rfl rfl (hb hby d19_42)
  have Fw12 := (((F_transitions_a1.ext E6).ext ExL).other W11 (Or.inr (slot_ne (Or.inr (own_w hw 182 rfl)) (Or.inr (own_w hw 180 rfl)) (by decide) (t := (.object "java/util/List")) (t' := (.object "java/lang/String")) (by decide) (by decide)))).same W12
  have K12 : Keep h0 h12 [a1] := K11.wr W12 (Or.inl (List.mem_of_getElem? (i := 0) rfl))
  have N12 := Fr.snoc X12 N11 g_a1
  obtain ⟨T13, h13, X13, e13, W13, st13⟩ := putF X12 hx hZ hown (host := "") (Or.inl (own_w hw 183 rfl)) Via.refl e12 ((((F_probabilities_a1.ext E6).ext ExL).other W11 (Or.inr (slot_ne (Or.inr (own_w hw 184 rfl)) (Or.inr (own_w hw 180 rfl)) (by decide) (t := (.object "java/util/Map")) (t' := (.object "java/lang/String")) (by decide) (by decide)))).other W12 (Or.inr (slot_ne (Or.inr (own_w hw 184 rfl)) (Or.inr (own_w hw 182 rfl)) (by decide) (t := (.object "java/util/Map")) (t' := (.object "java/util/List")) (by decide) (by decide)))) ((((E_a1.ext E6).ext ExL).wr W11).wr W12) (Or.inr ⟨(own_w hw 184 rfl), rfl, hnm⟩) (own_w hw 109 rfl) (ty := (.object "java/util/Map")) (by decide) rfl rfl (g := (mkF m 47 #[.val (.ref a1), .val (.ref a2), .val (.ref bL), .val (.ref a4)] [(.ref a4), (.ref a1)])) rfl rfl (hb hby d19_47)
  have Fw13 := ((((F_probabilities_a1.ext E6).ext ExL).other W11 (Or.inr (slot_ne (Or.inr (own_w hw 184 rfl)) (Or.inr (own_w hw 180 rfl)) (by decide) (t := (.object "java/util/Map")) (t' := (.object "java/lang/String")) (by decide) (by decide)))).other W12 (Or.inr (slot_ne (Or.inr (own_w hw 184 rfl)) (Or.inr (own_w hw 182 rfl)) (by decide) (t := (.object "java/util/Map")) (t' := (.object "java/util/List")) (by decide) (by decide)))).same W13
  have K13 : Keep h0 h13 [a1] := K12.wr W13 (Or.inl (List.mem_of_getElem? (i := 0) rfl))
  have N13 := Fr.snoc X13 N12 g_a1
  have hkEnd := Nat.le_trans (Nat.le_trans (Nat.le_trans (Nat.le_trans (Nat.le_trans hk ExL.1) (Keep.of_wr W11).1) (Keep.of_wr W12).1) (Keep.of_wr W13).1) (Nat.le_of_eq (congrArg Array.size e13).symm)
  obtain ⟨fs, hr, hrun, hended, hEW⟩ := X13.leaveW hS hkEnd (v := none) (fun _ => rfl)
  refine ⟨_, _, pre0 _ ?_, hrun, hended, _, _, rfl, ?_, hEW.1, hEW.2.1, hEW.2.2.1, hEW.2.2.2.mono (by decide) (by decide)⟩
  · show Steps _ _ _ (s₁.setTop (mkF m 0 #[.val (.ref a1), .val (.ref a2), .val (.ref a3), .val (.ref a4)] [])) _
    refine XS.aloadN X0.here hx rfl (hb hby d19_0) rfl rfl ?_
    show Steps _ _ _ (s₁.setTop (mkF m 1 #[.val (.ref a1), .val (.ref a2), .val (.ref a3), .val (.ref a4)] [(.ref a1)])) _
    refine st5.trans ?_
    show Steps _ _ _ (T5.setTop (mkF m 4 #[.val (.ref a1), .val (.ref a2), .val (.ref a3), .val (.ref a4)] [])) _
    refine XS.aloadN X5.here hx rfl (hb hby d19_4) rfl rfl ?_
    show Steps _ _ _ (T5.setTop (mkF m 5 #[.val (.ref a1), .val (.ref a2), .val (.ref a3), .val (.ref a4)] [(.ref a2)])) _
    refine st6 _ ?_
    show Steps _ _ _ (T6.setTop (mkF m 7 #[.val (.ref a1), .val (.ref a2), .val (.ref a3), .val (.ref a4)] [(.ref aS6), (.ref a2)])) _
    refine st7 _ ?_
    show Steps _ _ _ (T7.setTop (mkF m 10 #[.val (.ref a1), .val (.ref a2), .val (.ref a3), .val (.ref a4)] [(.ref a2)])) _
    refine XS.pop X7.here hx rfl (hb hby d19_10) rfl rfl ?_
    refine XS.aloadN X7.here hx rfl (hb hby d19_11) rfl rfl ?_
    show Steps _ _ _ (T7.setTop (mkF m 12 #[.val (.ref a1), .val (.ref a2), .val (.ref a3), .val (.ref a4)] [(.ref a3)])) _
    refine st8 _ ?_
    show Steps _ _ _ (T8.setTop (mkF m 15 #[.val (.ref a1), .val (.ref a2), .val (.ref a3), .val (.ref a4)] [(.ref bL)])) _
    refine XS.astoreN X8.here hx rfl (hb hby d19_15) rfl rfl (l' := #[.val (.ref a1), .val (.ref a2), .val (.ref bL), .val (.ref a4)]) rfl ?_
    refine XS.aloadN X8.here hx rfl (hb hby d19_16) rfl rfl ?_
    show Steps _ _ _ (T8.setTop (mkF m 17 #[.val (.ref a1), .val (.ref a2), .val (.ref bL), .val (.ref a4)] [(.ref a4)])) _
    refine st9 _ ?_
    show Steps _ _ _ (T9.setTop (mkF m 20 #[.val (.ref a1), .val (.ref a2), .val (.ref bL), .val (.ref a4)] [(.ref a4)])) _
    refine XS.astoreN X9.here hx rfl (hb hby d19_20) rfl rfl (l' := #[.val (.ref a1), .val (.ref a2), .val (.ref bL), .val (.ref a4)]) rfl ?_
    refine XS.aloadN X9.here hx rfl (hb hby d19_21) rfl rfl ?_
    show Steps _ _ _ (T9.setTop (mkF m 22 #[.val (.ref a1), .val (.ref a2), .val (.ref bL), .val (.ref a4)] [(.ref a4)])) _
    refine st10.trans ?_
    show Steps _ _ _ (T10.setTop (mkF m 27 #[.val (.ref a1), .val (.ref a2), .val (.ref bL), .val (.ref a4)] [(.int (1 : Int32))])) _
    refine XS.ifYes X10.here hx rfl (pc0 := 27) (pc' := 35) rfl (hb hby d19_27) rfl ((if0 _ _).trans (feq (by decide : ¬ ((1 : Int32) = (0 : Int32)))).2) (by decide) (by decide) ?_
    refine XS.aloadN X10.here hx rfl (hb hby d19_35) rfl rfl ?_
    refine XS.aloadN X10.here hx rfl (hb hby d19_36) rfl rfl ?_
    show Steps _ _ _ (T10.setTop (mkF m 37 #[.val (.ref a1), .val (.ref a2), .val (.ref bL), .val (.ref a4)] [(.ref a2), (.ref a1)])) _
    refine st11 _ ?_
    show Steps _ _ _ (T11.setTop (mkF m 40 #[.val (.ref a1), .val (.ref a2), .val (.ref bL), .val (.ref a4)] [])) _
    refine XS.aloadN X11.here hx rfl (hb hby d19_40) rfl rfl ?_
    refine XS.aloadN X11.here hx rfl (hb hby d19_41) rfl rfl ?_
    show Steps _ _ _ (T11.setTop (mkF m 42 #[.val (.ref a1), .val (.ref a2), .val (.ref bL), .val (.ref a4)] [(.ref bL), (.ref a1)])) _
    refine st12 _ ?_
    show Steps _ _ _ (T12.setTop (mkF m 45 #[.val (.ref a1), .val (.ref a2), .val (.ref bL), .val (.ref a4)] [])) _
    refine XS.aloadN X12.here hx rfl (hb hby d19_45) rfl rfl ?_
    refine XS.aloadN X12.here hx rfl (hb hby d19_46) rfl rfl ?_
    show Steps _ _ _ (T12.setTop (mkF m 47 #[.val (.ref a1), .val (.ref a2), .val (.ref bL), .val (.ref a4)] [(.ref a4), (.ref a1)])) _
    refine st13 _ ?_
    show Steps _ _ _ (T13.setTop (mkF m 50 #[.val (.ref a1), .val (.ref a2), .val (.ref bL), .val (.ref a4)] [])) _
    exact X13.returnOut hx Bd.returns (hb hby d19_50) hr
  · show Q_sm3_1 Z a1 a2 a3 a4 kA vs t0 aE aM wO u_initial_a1 u_transitions_a1 u_probabilities_a1 h0 n0 _ T13.heap _
    rw [e13]
    exact ⟨bL, rfl, N13, K13, (((((E_a1.ext E6).ext ExL).wr W11).wr W12).wr W13), (Fw12.other W13 (Or.inr (slot_ne (Or.inr (own_w hw 182 rfl)) (Or.inr (own_w hw 184 rfl)) (by decide) (t := (.object "java/util/List")) (t' := (.object "java/util/Map")) (by decide) (by decide)))), (((EaL.wr W11).wr W12).wr W13), (((F1L.other W11 (Or.inl (Ne.symm (neL)))).other W12 (Or.inl (Ne.symm (neL)))).other W13 (Or.inl (Ne.symm (neL))))⟩
def Q_sm3_2 (Z : State) (a1 : Addr) (a2 : Addr) (a3 : Addr) (a4 : Addr) (kA : ClassId) (vs : List Value) (t0 : Addr) (t1 : Addr) (aE : Addr) (aM : Addr) (u_initial_a1 : Value) (u_transitions_a1 : Value) (u_probabilities_a1 : Value) (h0 : Heap) (n0 : Nat) (v : Option Value) (h : Heap) (L : List Loc) : Prop := ∃ bL, v = none ∧ Fr n0 L ∧ Keep h0 h [a1] ∧ Exa Z h a1 "com/example/arcrover/arcrover/StateMachine" ∧ Fld Z h a1 "com/example/arcrover/arcrover/StateMachine" "transitions" "Ljava/util/List;" (.ref bL) ∧ Exa Z h bL "java/util/ImmutableCollections$List12" ∧ Fld Z h bL "java/util/ImmutableCollections$List12" "e1" "Ljava/lang/Object;" (.ref t1)
theorem rm_sm3_2 (l : Launch) (Z : State) (a0 : Array Value) (hw : ∀ d ∈ tables_1, d.before a0 Z = true) (ws : List Jvm.Cond) (a1 : Addr) (a2 : Addr) (a3 : Addr) (a4 : Addr) (kA : ClassId) (vs : List Value) (t0 : Addr) (t1 : Addr) (aE : Addr) (aM : Addr) (u_initial_a1 : Value) (u_transitions_a1 : Value) (u_probabilities_a1 : Value) (h0 : Heap) (n0 : Nat) (Z0 : n0 ≤ h0.size) (Ol : Old Z n0 h0) (E_a3 : Exa Z h0 a3 "java/util/ArrayList") (Fe_a3 : Fld Z h0 a3 "java/util/ArrayList" "elementData" "[Ljava/lang/Object;" (.ref aE)) (Fs_a3 : Fld Z h0 a3 "java/util/ArrayList" "size" "I" (.int (2 : Int32))) (V_aE : Arv Z h0 aE kA (.object "java/lang/Object") (10 : Int32) vs .null) (E_aE : Exa Z h0 aE "[Ljava/lang/Object;") (Mr : own_mir Z "[Ljava/lang/Object;" aM) (hv0 : vs.getD 0 .null = .ref t0) (hv1 : vs.getD 1 .null = .ref t1) (I_t0 : Ins Z h0 t0 "java/lang/Object" true) (I_t1 : Ins Z h0 t1 "java/lang/Object" true) (E_m : Exa Z h0 a4 "java/util/ImmutableCollections$MapN") (F_m : Fld Z h0 a4 "java/util/ImmutableCollections$MapN" "size" "I" (.int (0 : Int32))) (E_a1 : Exa Z h0 a1 "com/example/arcrover/arcrover/StateMachine") (F_initial_a1 : Fld Z h0 a1 "com/example/arcrover/arcrover/StateMachine" "initial" "Ljava/lang/String;" u_initial_a1) (g_a1 : n0 ≤ a1) (F_transitions_a1 : Fld Z h0 a1 "com/example/arcrover/arcrover/StateMachine" "transitions" "Ljava/util/List;" u_transitions_a1) (F_probabilities_a1 : Fld Z h0 a1 "com/example/arcrover/arcrover/StateMachine" "probabilities" "Ljava/util/Map;" u_probabilities_a1) :
    MetFree l own_y7 (head1 (Jvm.Cond.code own_y7 prog_16_method_1_code 4 none :: ws) own_r37) (fun a U => a = #[(.ref a1), (.ref a2), (.ref a3), (.ref a4)] ∧ Z.Warmed39 U.vm ∧ U.heap = h0) (fun _ _ _ _ _ => True) (fun _ U o U' => ∃ v L, o = .returned v ∧ Q_sm3_2 Z a1 a2 a3 a4 kA vs t0 t1 aE aM u_initial_a1 u_transitions_a1 u_probabilities_a1 h0 n0 v U'.heap L ∧ ReturnedEndW U o U' L own_r37.cells own_r37.slots) := by
  refine MetFree.of_bodySF (plainFor_of_name pn_19) hisR ?_
  intro p e s m args below meth c s₁ Bd hml0 hP hK
  obtain ⟨rfl, hZ, hh⟩ := hP
  have hx := Bd.exec
  have hby := Bd.bytes
  have hml : c.maxLocals = 4 := hml0
  have hown : s.vm.findClass "com/example/arcrover/arcrover/StateMachine" = some m.cls := findClass_of_methodNamed Bd.named
  have hnm := (name_of_methodNamed Bd.named Bd.method).1
  have X0 : Stand p l e own_r37 (s.setVm s.vm) m #[(.ref a1), (.ref a2), (.ref a3), (.ref a4)] below meth c s₁ [] 0 0 := Stand.of_body Bd
  have hS : s.Since s.vm s.heap.size := (State.WarmedH.refl s).since s.heap.size
  have hk : s.heap.size ≤ h0.size := Nat.le_of_eq (congrArg Array.size hh)
  have e0 : s₁.heap = h0 := by rw [← hh, Bd.state]; rfl
  have N0 := Fr.nil n0
  have pre0 : ∀ t, Steps p.tables e below (s₁.setTop (mkF m 0 #[.val (.ref a1), .val (.ref a2), .val (.ref a3), .val (.ref a4)] [])) t → Steps p.tables e below (s₁.setTop (entryFrame m #[(.ref a1), (.ref a2), (.ref a3), (.ref a4)] 4)) t := fun t k => castTop (ef_19 m a1 a2 a3 a4) k
  obtain ⟨_, _, ⟨T5, L5, k5, n5⟩, -, X5, ⟨Lc5, hQ5, l5, y5, z5⟩, st5⟩ := X0.specialBack hx (y := own_y16) rfl hown (mvT hZ (own_w hw 123 rfl)) (mvT hZ (own_w hw 124 rfl)) (mvT hZ (own_w hw 127 rfl)) (by decide) (backOf (W := 0) (rm_rec l Z a0 hw [] a1  h0 n0 Z0) hZ (own_w hw 127 rfl) (own_w hw 126 rfl) (by decide) (by decide)) (g := (mkF m 1 #[.val (.ref a1), .val (.ref a2), .val (.ref a3), .val (.ref a4)] [(.ref a1)])) rfl (by rw [hml]; rfl) (Steps.refl _) (a := a1) (argsL := []) (rest := []) (lenOf pd_19_4 rfl) rfl (Nat.le_of_eq rfl) (hb hby d19_1) (fun _ _ => ⟨rfl, e0, (by decide : 0 + 0 ≤ _), (by decide : 0 + 0 ≤ _)⟩)
  dsimp only [Pt.U, Pt.locs, Pt.cells, Pt.slots] at X5 l5 y5 z5 st5 hQ5
  subst l5 y5 z5
  obtain ⟨rfl, N5q, K5⟩ := hQ5
  have N5 := Fr.app N0 N5q
  obtain ⟨aS6, T6, h6, k6, X6, e6, E6, hS, hk, hZ, hown, st6⟩ := ldcS X5 hx hZ hown (own_w hw 129 rfl) (own_wS hw) K5 hS hk (g := (mkF m 5 #[.val (.ref a1), .val (.ref a2), .val (.ref a3), .val (.ref a4)] [(.ref a2)])) rfl (hb hby d19_5) (n := 28) (by decide) (by decide) (by decide) (by decide)
  have Kc6 : Keep h0 h6 [a1] := (Keep.refl h0 [a1]).ext E6
  obtain ⟨_, _, ⟨T7, L7, k7, n7⟩, -, X7, ⟨Lc7, hQ7, l7, y7, z7⟩, st7⟩ := Jvm.LawKit.callS X6 hx (y := own_y9) hown (mvT hZ (own_w hw 132 rfl)) (mvT hZ (own_w hw 133 rfl)) (mvT hZ (own_w hw 134 rfl)) (mvT hZ (own_w hw 135 rfl)) (by decide) (backOf (W := 0) (rm_rnn2 l Z a0 hw [] a2 aS6  h6 n0 (Nat.le_trans Z0 E6.1)) hZ (own_w hw 135 rfl) (own_w hw 134 rfl) (by decide) (by decide)) (g := (mkF m 7 #[.val (.ref a1), .val (.ref a2), .val (.ref a3), .val (.ref a4)] [(.ref aS6), (.ref a2)])) rfl (by rw [hml]; rfl) (argsL := [(.ref a2), (.ref aS6)]) (rest := []) (lenOf pd_19_15 rfl) rfl (Nat.le_of_eq rfl) (hb hby d19_7) (fun _ _ => ⟨rfl, e6, (by decide : 2 + 0 ≤ _), (by decide : 32 + 0 ≤ _)⟩)
  dsimp only [Pt.U, Pt.locs, Pt.cells, Pt.slots] at X7 l7 y7 z7 st7 hQ7
  subst l7 y7 z7
  obtain ⟨rfl, N7q, K7⟩ := hQ7
  have N7 := Fr.app N5 N7q
  obtain ⟨_, _, ⟨T8, L8, k8, n8⟩, -, X8, ⟨Lc8, hQ8, l8, y8, z8⟩, st8⟩ := Jvm.LawKit.callS X7 hx (y := own_y5) hown (mvT hZ (own_w hw 136 rfl)) (mvT hZ (own_w hw 137 rfl)) (mvT hZ (own_w hw 138 rfl)) (mvT hZ (own_w hw 139 rfl)) (by decide) (backOf (W := 0) (rm_cof2 l Z a0 hw [] a3 kA vs t0 t1 aE aM h6 n0 (Nat.le_trans Z0 E6.1) (E_a3.ext E6) (Fe_a3.ext E6) (Fs_a3.ext E6) (V_aE.ext E6) (E_aE.ext E6) Mr hv0 hv1 (own_insK I_t0 Kc6) (own_insK I_t1 Kc6)) hZ (own_w hw 139 rfl) (own_w hw 138 rfl) (by decide) (by decide)) (g := (mkF m 12 #[.val (.ref a1), .val (.ref a2), .val (.ref a3), .val (.ref a4)] [(.ref a3)])) rfl (by rw [hml]; rfl) (argsL := [(.ref a3)]) (rest := []) (lenOf pd_19_16 rfl) rfl (Nat.le_of_eq rfl) (hb hby d19_12) (fun _ _ => ⟨rfl, K7, (by decide : 2 + 2 ≤ _), (by decide : 32 + 4 ≤ _)⟩)
  dsimp only [Pt.U, Pt.locs, Pt.cells, Pt.slots] at X8 l8 y8 z8 st8 hQ8
  subst l8 y8 z8
  obtain ⟨bL, rfl, N8q, ExL, EaL, F1L⟩ := hQ8
  have N8 := Fr.app N7 N8q
  have Kc8 : Keep h0 T8.heap [a1] := Kc6.ext ExL
  have neL : a1 ≠ bL := ne_exa (((E_a1.ext E6).ext ExL)) EaL (by decide)
  obtain ⟨_, _, ⟨T9, L9, k9, n9⟩, -, X9, ⟨Lc9, hQ9, l9, y9, z9⟩, st9⟩ := Jvm.LawKit.callS X8 hx (y := own_y22) hown (mvT hZ (own_w hw 162 rfl)) (mvT hZ (own_w hw 163 rfl)) (mvT hZ (own_w hw 116 rfl)) (mvT hZ (own_w hw 164 rfl)) (by decide) (backOf (W := 0) (rm_mcopy l Z a0 hw [] a4  T8.heap n0 (Nat.le_trans (Nat.le_trans Z0 E6.1) ExL.1) ((E_m.ext E6).ext ExL)) hZ (own_w hw 164 rfl) (own_w hw 116 rfl) (by decide) (by decide)) (g := (mkF m 17 #[.val (.ref a1), .val (.ref a2), .val (.ref bL), .val (.ref a4)] [(.ref a4)])) rfl (by rw [hml]; rfl) (argsL := [(.ref a4)]) (rest := []) (lenOf pd_19_19 rfl) rfl (Nat.le_of_eq rfl) (hb hby d19_17) (fun _ _ => ⟨rfl, rfl, (by decide : 4 + 0 ≤ _), (by decide : 36 + 0 ≤ _)⟩)
  dsimp only [Pt.U, Pt.locs, Pt.cells, Pt.slots] at X9 l9 y9 z9 st9 hQ9
  subst l9 y9 z9
  obtain ⟨rfl, N9q, K9⟩ := hQ9
  have N9 := Fr.app N8 N9q
  obtain ⟨cq10, kq10, q10a, q10b, q10c⟩ := isOf hZ K9 ((E_m.ext E6).ext ExL)
  obtain ⟨_, _, ⟨T10, L10, k10, n10⟩, -, X10, ⟨Lc10, hQ10, l10, y10, z10⟩, st10⟩ := X9.interfaceBack hx (xi := own_y33) (y := own_y23) hown (mvT hZ (own_w hw 167 rfl)) (mvT hZ (own_w hw 168 rfl)) (mvT hZ (own_w hw 169 rfl)) (mvT hZ (own_w hw 170 rfl)) (mvT hZ (own_w hw 171 rfl)) (mvT hZ (own_w hw 172 rfl)) (mvT hZ (own_w hw 173 rfl)) (mvT hZ (own_w hw 174 rfl)) (by decide) (backOf (W := 0) (rm_mempty l Z a0 hw [] a4  T8.heap n0 (Nat.le_trans (Nat.le_trans Z0 E6.1) ExL.1) ((F_m.ext E6).ext ExL)) hZ (own_w hw 176 rfl) (own_w hw 175 rfl) (by decide) (by decide)) q10a q10b q10c (g := (mkF m 22 #[.val (.ref a1), .val (.ref a2), .val (.ref bL), .val (.ref a4)] [(.ref a4)])) rfl (by rw [hml]; rfl) (Steps.refl _) (argsL := []) (rest := []) (lenOf pd_19_17 rfl) rfl (Nat.le_of_eq rfl) (hb hby d19_22) (fun _ _ => ⟨rfl, K9, (by decide : 4 + 0 ≤ _), (by decide : 36 + 0 ≤ _)⟩)
  dsimp only [Pt.U, Pt.locs, Pt.cells, Pt.slots] at X10 l10 y10 z10 st10 hQ10
  subst l10 y10 z10
  obtain ⟨rfl, N10q, K10⟩ := hQ10
  have N10 := Fr.app N9 N10q
  obtain ⟨T11, h11, X11, e11, W11, st11⟩ := putF X10 hx hZ hown (host := "") (Or.inl (own_w hw 179 rfl)) Via.refl K10 ((F_initial_a1.ext E6).ext ExL) ((E_a1.ext E6).ext ExL) (Or.inr ⟨(own_w hw 180 rfl), rfl, hnm⟩) (own_w hw 109 rfl) (ty := (.object "java/lang/String")) (by decide) rfl rfl (g := (mkF m 37 #[.val (.ref a1), .val (.ref a2), .val (.ref bL), .val (.ref a4)] [(.ref a2), (.ref a1)])) rfl rfl (hb hby d19_37)
  have Fw11 := ((F_initial_a1.ext E6).ext ExL).same W11
  have K11 : Keep h0 h11 [a1] := Kc8.wr W11 (Or.inl (List.mem_of_getElem? (i := 0) rfl))
  have N11 := Fr.snoc X11 N10 g_a1
  obtain ⟨T12, h12, X12, e12, W12, st12⟩ := putF X11 hx hZ hown (host := "") (Or.inl (own_w hw 181 rfl)) Via.refl e11 (((F_transitions_a1.ext E6).ext ExL).other W11 (Or.inr (slot_ne (Or.inr (own_w hw 182 rfl)) (Or.inr (own_w hw 180 rfl)) (by decide) (t := (.object "java/util/List")) (t' := (.object "java/lang/String")) (by decide) (by decide)))) (((E_a1.ext E6).ext ExL).wr W11) (Or.inr ⟨(own_w hw 182 rfl), rfl, hnm⟩) (own_w hw 109 rfl) (ty := (.object "java/util/List")) (by decide) rfl rfl (g := (mkF m 42 #[.val (.ref a1), .val (.ref a2), .val (.ref bL), .val (.ref a4)] [(.ref bL), (.ref a1)])) rfl rfl (hb hby d19_42)
  have Fw12 := (((F_transitions_a1.ext E6).ext ExL).other W11 (Or.inr (slot_ne (Or.inr (own_w hw 182 rfl)) (Or.inr (own_w hw 180 rfl)) (by decide) (t := (.object "java/util/List")) (t' := (.object "java/lang/String")) (by decide) (by decide)))).same W12
  have K12 : Keep h0 h12 [a1] := K11.wr W12 (Or.inl (List.mem_of_getElem? (i := 0) rfl))
  have N12 := Fr.snoc X12 N11 g_a1
  obtain ⟨T13, h13, X13, e13, W13, st13⟩ := putF X12 hx hZ hown (host := "") (Or.inl (own_w hw 183 rfl)) Via.refl e12 ((((F_probabilities_a1.ext E6).ext ExL).other W11 (Or.inr (slot_ne (Or.inr (own_w hw 184 rfl)) (Or.inr (own_w hw 180 rfl)) (by decide) (t := (.object "java/util/Map")) (t' := (.object "java/lang/String")) (by decide) (by decide)))).other W12 (Or.inr (slot_ne (Or.inr (own_w hw 184 rfl)) (Or.inr (own_w hw 182 rfl)) (by decide) (t := (.object "java/util/Map")) (t' := (.object "java/util/List")) (by decide) (by decide)))) ((((E_a1.ext E6).ext ExL).wr W11).wr W12) (Or.inr ⟨(own_w hw 184 rfl), rfl, hnm⟩) (own_w hw 109 rfl) (ty := (.object "java/util/Map")) (by decide) rfl rfl (g := (mkF m 47 #[.val (.ref a1), .val (.ref a2), .val (.ref bL), .val (.ref a4)] [(.ref a4), (.ref a1)])) rfl rfl (hb hby d19_47)
  have Fw13 := ((((F_probabilities_a1.ext E6).ext ExL).other W11 (Or.inr (slot_ne (Or.inr (own_w hw 184 rfl)) (Or.inr (own_w hw 180 rfl)) (by decide) (t := (.object "java/util/Map")) (t' := (.object "java/lang/String")) (by decide) (by decide)))).other W12 (Or.inr (slot_ne (Or.inr (own_w hw 184 rfl)) (Or.inr (own_w hw 182 rfl)) (by decide) (t := (.object "java/util/Map")) (t' := (.object "java/util/List")) (by decide) (by decide)))).same W13
  have K13 : Keep h0 h13 [a1] := K12.wr W13 (Or.inl (List.mem_of_getElem? (i := 0) rfl))
  have N13 := Fr.snoc X13 N12 g_a1
  have hkEnd := Nat.le_trans (Nat.le_trans (Nat.le_trans (Nat.le_trans (Nat.le_trans hk ExL.1) (Keep.of_wr W11).1) (Keep.of_wr W12).1) (Keep.of_wr W13).1) (Nat.le_of_eq (congrArg Array.size e13).symm)
  obtain ⟨fs, hr, hrun, hended, hEW⟩ := X13.leaveW hS hkEnd (v := none) (fun _ => rfl)
  refine ⟨_, _, pre0 _ ?_, hrun, hended, _, _, rfl, ?_, hEW.1, hEW.2.1, hEW.2.2.1, hEW.2.2.2.mono (by decide) (by decide)⟩
  · show Steps _ _ _ (s₁.setTop (mkF m 0 #[.val (.ref a1), .val (.ref a2), .val (.ref a3), .val (.ref a4)] [])) _
    refine XS.aloadN X0.here hx rfl (hb hby d19_0) rfl rfl ?_
    show Steps _ _ _ (s₁.setTop (mkF m 1 #[.val (.ref a1), .val (.ref a2), .val (.ref a3), .val (.ref a4)] [(.ref a1)])) _
    refine st5.trans ?_
    show Steps _ _ _ (T5.setTop (mkF m 4 #[.val (.ref a1), .val (.ref a2), .val (.ref a3), .val (.ref a4)] [])) _
    refine XS.aloadN X5.here hx rfl (hb hby d19_4) rfl rfl ?_
    show Steps _ _ _ (T5.setTop (mkF m 5 #[.val (.ref a1), .val (.ref a2), .val (.ref a3), .val (.ref a4)] [(.ref a2)])) _
    refine st6 _ ?_
    show Steps _ _ _ (T6.setTop (mkF m 7 #[.val (.ref a1), .val (.ref a2), .val (.ref a3), .val (.ref a4)] [(.ref aS6), (.ref a2)])) _
    refine st7 _ ?_
    show Steps _ _ _ (T7.setTop (mkF m 10 #[.val (.ref a1), .val (.ref a2), .val (.ref a3), .val (.ref a4)] [(.ref a2)])) _
    refine XS.pop X7.here hx rfl (hb hby d19_10) rfl rfl ?_
    refine XS.aloadN X7.here hx rfl (hb hby d19_11) rfl rfl ?_
    show Steps _ _ _ (T7.setTop (mkF m 12 #[.val (.ref a1), .val (.ref a2), .val (.ref a3), .val (.ref a4)] [(.ref a3)])) _
    refine st8 _ ?_
    show Steps _ _ _ (T8.setTop (mkF m 15 #[.val (.ref a1), .val (.ref a2), .val (.ref a3), .val (.ref a4)] [(.ref bL)])) _
    refine XS.astoreN X8.here hx rfl (hb hby d19_15) rfl rfl (l' := #[.val (.ref a1), .val (.ref a2), .val (.ref bL), .val (.ref a4)]) rfl ?_
    refine XS.aloadN X8.here hx rfl (hb hby d19_16) rfl rfl ?_
    show Steps _ _ _ (T8.setTop (mkF m 17 #[.val (.ref a1), .val (.ref a2), .val (.ref bL), .val (.ref a4)] [(.ref a4)])) _
    refine st9 _ ?_
    show Steps _ _ _ (T9.setTop (mkF m 20 #[.val (.ref a1), .val (.ref a2), .val (.ref bL), .val (.ref a4)] [(.ref a4)])) _
    refine XS.astoreN X9.here hx rfl (hb hby d19_20) rfl rfl (l' := #[.val (.ref a1), .val (.ref a2), .val (.ref bL), .val (.ref a4)]) rfl ?_
    refine XS.aloadN X9.here hx rfl (hb hby d19_21) rfl rfl ?_
    show Steps _ _ _ (T9.setTop (mkF m 22 #[.val (.ref a1), .val (.ref a2), .val (.ref bL), .val (.ref a4)] [(.ref a4)])) _
    refine st10.trans ?_
    show Steps _ _ _ (T10.setTop (mkF m 27 #[.val (.ref a1), .val (.ref a2), .val (.ref bL), .val (.ref a4)] [(.int (1 : Int32))])) _
    refine XS.ifYes X10.here hx rfl (pc0 := 27) (pc' := 35) rfl (hb hby d19_27) rfl ((if0 _ _).trans (feq (by decide : ¬ ((1 : Int32) = (0 : Int32)))).2) (by decide) (by decide) ?_
    refine XS.aloadN X10.here hx rfl (hb hby d19_35) rfl rfl ?_
    refine XS.aloadN X10.here hx rfl (hb hby d19_36) rfl rfl ?_
    show Steps _ _ _ (T10.setTop (mkF m 37 #[.val (.ref a1), .val (.ref a2), .val (.ref bL), .val (.ref a4)] [(.ref a2), (.ref a1)])) _
    refine st11 _ ?_
    show Steps _ _ _ (T11.setTop (mkF m 40 #[.val (.ref a1), .val (.ref a2), .val (.ref bL), .val (.ref a4)] [])) _
    refine XS.aloadN X11.here hx rfl (hb hby d19_40) rfl rfl ?_
    refine XS.aloadN X11.here hx rfl (hb hby d19_41) rfl rfl ?_
    show Steps _ _ _ (T11.setTop (mkF m 42 #[.val (.ref a1), .val (.ref a2), .val (.ref bL), .val (.ref a4)] [(.ref bL), (.ref a1)])) _
    refine st12 _ ?_
    show Steps _ _ _ (T12.setTop (mkF m 45 #[.val (.ref a1), .val (.ref a2), .val (.ref bL), .val (.ref a4)] [])) _
    refine XS.aloadN X12.here hx rfl (hb hby d19_45) rfl rfl ?_
    refine XS.aloadN X12.here hx rfl (hb hby d19_46) rfl rfl ?_
    show Steps _ _ _ (T12.setTop (mkF m 47 #[.val (.ref a1), .val (.ref a2), .val (.ref bL), .val (.ref a4)] [(.ref a4), (.ref a1)])) _
    refine st13 _ ?_
    show Steps _ _ _ (T13.setTop (mkF m 50 #[.val (.ref a1), .val (.ref a2), .val (.ref bL), .val (.ref a4)] [])) _
    exact X13.returnOut hx Bd.returns (hb hby d19_50) hr
  · show Q_sm3_2 Z a1 a2 a3 a4 kA vs t0 t1 aE aM u_initial_a1 u_transitions_a1 u_probabilities_a1 h0 n0 _ T13.heap _
    rw [e13]
    exact ⟨bL, rfl, N13, K13, (((((E_a1.ext E6).ext ExL).wr W11).wr W12).wr W13), (Fw12.other W13 (Or.inr (slot_ne (Or.inr (own_w hw 182 rfl)) (Or.inr (own_w hw 184 rfl)) (by decide) (t := (.object "java/util/List")) (t' := (.object "java/util/Map")) (by decide) (by decide)))), (((EaL.wr W11).wr W12).wr W13), (((F1L.other W11 (Or.inl (Ne.symm (neL)))).other W12 (Or.inl (Ne.symm (neL)))).other W13 (Or.inl (Ne.symm (neL))))⟩
def Q_sm3_3 (Z : State) (a1 : Addr) (a2 : Addr) (a3 : Addr) (a4 : Addr) (kA : ClassId) (vs : List Value) (t0 : Addr) (t1 : Addr) (t2 : Addr) (aE : Addr) (aM : Addr) (u_initial_a1 : Value) (u_transitions_a1 : Value) (u_probabilities_a1 : Value) (h0 : Heap) (n0 : Nat) (v : Option Value) (h : Heap) (L : List Loc) : Prop := ∃ bL, v = none ∧ Fr n0 L ∧ Keep h0 h [a1] ∧ Exa Z h a1 "com/example/arcrover/arcrover/StateMachine" ∧ Fld Z h a1 "com/example/arcrover/arcrover/StateMachine" "transitions" "Ljava/util/List;" (.ref bL) ∧ Exa Z h bL "java/util/ImmutableCollections$ListN" ∧ ∃ eA cE, Fld Z h bL "java/util/ImmutableCollections$ListN" "elements" "[Ljava/lang/Object;" (.ref eA) ∧ Arr Z h eA cE (.object "java/lang/Object") ∧ cE.slots.size = (3 : Int32).toNatClampNeg
theorem rm_sm3_3 (l : Launch) (Z : State) (a0 : Array Value) (hw : ∀ d ∈ tables_1, d.before a0 Z = true) (ws : List Jvm.Cond) (a1 : Addr) (a2 : Addr) (a3 : Addr) (a4 : Addr) (kA : ClassId) (vs : List Value) (t0 : Addr) (t1 : Addr) (t2 : Addr) (aE : Addr) (aM : Addr) (u_initial_a1 : Value) (u_transitions_a1 : Value) (u_probabilities_a1 : Value) (h0 : Heap) (n0 : Nat) (Z0 : n0 ≤ h0.size) (Ol : Old Z n0 h0) (E_a3 : Exa Z h0 a3 "java/util/ArrayList") (Fe_a3 : Fld Z h0 a3 "java/util/ArrayList" "elementData" "[Ljava/lang/Object;" (.ref aE)) (Fs_a3 : Fld Z h0 a3 "java/util/ArrayList" "size" "I" (.int (3 : Int32))) (V_aE : Arv Z h0 aE kA (.object "java/lang/Object") (10 : Int32) vs .null) (E_aE : Exa Z h0 aE "[Ljava/lang/Object;") (Mr : own_mir Z "[Ljava/lang/Object;" aM) (hv0 : vs.getD 0 .null = .ref t0) (hv1 : vs.getD 1 .null = .ref t1) (hv2 : vs.getD 2 .null = .ref t2) (I_t0 : Ins Z h0 t0 "java/lang/Object" true) (I_t1 : Ins Z h0 t1 "java/lang/Object" true) (I_t2 : Ins Z h0 t2 "java/lang/Object" true) (E_m : Exa Z h0 a4 "java/util/ImmutableCollections$MapN") (F_m : Fld Z h0 a4 "java/util/ImmutableCollections$MapN" "size" "I" (.int (0 : Int32))) (E_a1 : Exa Z h0 a1 "com/example/arcrover/arcrover/StateMachine") (F_initial_a1 : Fld Z h0 a1 "com/example/arcrover/arcrover/StateMachine" "initial" "Ljava/lang/String;" u_initial_a1) (g_a1 : n0 ≤ a1) (F_transitions_a1 : Fld Z h0 a1 "com/example/arcrover/arcrover/StateMachine" "transitions" "Ljava/util/List;" u_transitions_a1) (F_probabilities_a1 : Fld Z h0 a1 "com/example/arcrover/arcrover/StateMachine" "probabilities" "Ljava/util/Map;" u_probabilities_a1) :
    MetFree l own_y7 (head1 (Jvm.Cond.code own_y7 prog_16_method_1_code 4 none :: ws) own_r38) (fun a U => a = #[(.ref a1), (.ref a2), (.ref a3), (.ref a4)] ∧ Z.Warmed39 U.vm ∧ U.heap = h0) (fun _ _ _ _ _ => True) (fun _ U o U' => ∃ v L, o = .returned v ∧ Q_sm3_3 Z a1 a2 a3 a4 kA vs t0 t1 t2 aE aM u_initial_a1 u_transitions_a1 u_probabilities_a1 h0 n0 v U'.heap L ∧ ReturnedEndW U o U' L own_r38.cells own_r38.slots) := by
  refine MetFree.of_bodySF (plainFor_of_name pn_19) hisR ?_
  intro p e s m args below meth c s₁ Bd hml0 hP hK
  obtain ⟨rfl, hZ, hh⟩ := hP
  have hx := Bd.exec
  have hby := Bd.bytes
  have hml : c.maxLocals = 4 := hml0
  have hown : s.vm.findClass "com/example/arcrover/arcrover/StateMachine" = some m.cls := findClass_of_methodNamed Bd.named
  have hnm := (name_of_methodNamed Bd.named Bd.method).1
  have X0 : Stand p l e own_r38 (s.setVm s.vm) m #[(.ref a1), (.ref a2), (.ref a3), (.ref a4)] below meth c s₁ [] 0 0 := Stand.of_body Bd
  have hS : s.Since s.vm s.heap.size := (State.WarmedH.refl s).since s.heap.size
  have hk : s.heap.size ≤ h0.size := Nat.le_of_eq (congrArg Array.size hh)
  have e0 : s₁.heap = h0 := by rw [← hh, Bd.state]; rfl
  have N0 := Fr.nil n0
  have pre0 : ∀ t, Steps p.tables e below (s₁.setTop (mkF m 0 #[.val (.ref a1), .val (.ref a2), .val (.ref a3), .val (.ref a4)] [])) t → Steps p.tables e below (s₁.setTop (entryFrame m #[(.ref a1), (.ref a2), (.ref a3), (.ref a4)] 4)) t := fun t k => castTop (ef_19 m a1 a2 a3 a4) k
  obtain ⟨_, _, ⟨T5, L5, k5, n5⟩, -, X5, ⟨Lc5, hQ5, l5, y5, z5⟩, st5⟩ := X0.specialBack hx (y := own_y16) rfl hown (mvT hZ (own_w hw 123 rfl)) (mvT hZ (own_w hw 124 rfl)) (mvT hZ (own_w hw 127 rfl)) (by decide) (backOf (W := 0) (rm_rec l Z a0 hw [] a1  h0 n0 Z0) hZ (own_w hw 127 rfl) (own_w hw 126 rfl) (by decide) (by decide)) (g := (mkF m 1 #[.val (.ref a1), .val (.ref a2), .val (.ref a3), .val (.ref a4)] [(.ref a1)])) rfl (by rw [hml]; rfl) (Steps.refl _) (a := a1) (argsL := []) (rest := []) (lenOf pd_19_4 rfl) rfl (Nat.le_of_eq rfl) (hb hby d19_1) (fun _ _ => ⟨rfl, e0, (by decide : 0 + 0 ≤ _), (by decide : 0 + 0 ≤ _)⟩)
  dsimp only [Pt.U, Pt.locs, Pt.cells, Pt.slots] at X5 l5 y5 z5 st5 hQ5
  subst l5 y5 z5
  obtain ⟨rfl, N5q, K5⟩ := hQ5
  have N5 := Fr.app N0 N5q
  obtain ⟨aS6, T6, h6, k6, X6, e6, E6, hS, hk, hZ, hown, st6⟩ := ldcS X5 hx hZ hown (own_w hw 129 rfl) (own_wS hw) K5 hS hk (g := (mkF m 5 #[.val (.ref a1), .val (.ref a2), .val (.ref a3), .val (.ref a4)] [(.ref a2)])) rfl (hb hby d19_5) (n := 28) (by decide) (by decide) (by decide) (by decide)
  have Kc6 : Keep h0 h6 [a1] := (Keep.refl h0 [a1]).ext E6
  obtain ⟨_, _, ⟨T7, L7, k7, n7⟩, -, X7, ⟨Lc7, hQ7, l7, y7, z7⟩, st7⟩ := Jvm.LawKit.callS X6 hx (y := own_y9) hown (mvT hZ (own_w hw 132 rfl)) (mvT hZ (own_w hw 133 rfl)) (mvT hZ (own_w hw 134 rfl)) (mvT hZ (own_w hw 135 rfl)) (by decide) (backOf (W := 0) (rm_rnn2 l Z a0 hw [] a2 aS6  h6 n0 (Nat.le_trans Z0 E6.1)) hZ (own_w hw 135 rfl) (own_w hw 134 rfl) (by decide) (by decide)) (g := (mkF m 7 #[.val (.ref a1), .val (.ref a2), .val (.ref a3), .val (.ref a4)] [(.ref aS6), (.ref a2)])) rfl (by rw [hml]; rfl) (argsL := [(.ref a2), (.ref aS6)]) (rest := []) (lenOf pd_19_15 rfl) rfl (Nat.le_of_eq rfl) (hb hby d19_7) (fun _ _ => ⟨rfl, e6, (by decide : 2 + 0 ≤ _), (by decide : 32 + 0 ≤ _)⟩)
  dsimp only [Pt.U, Pt.locs, Pt.cells, Pt.slots] at X7 l7 y7 z7 st7 hQ7
  subst l7 y7 z7
  obtain ⟨rfl, N7q, K7⟩ := hQ7
  have N7 := Fr.app N5 N7q
  obtain ⟨_, _, ⟨T8, L8, k8, n8⟩, -, X8, ⟨Lc8, hQ8, l8, y8, z8⟩, st8⟩ := Jvm.LawKit.callS X7 hx (y := own_y5) hown (mvT hZ (own_w hw 136 rfl)) (mvT hZ (own_w hw 137 rfl)) (mvT hZ (own_w hw 138 rfl)) (mvT hZ (own_w hw 139 rfl)) (by decide) (backOf (W := 0) (rm_cof3 l Z a0 hw [] a3 kA vs t0 t1 t2 aE aM h6 n0 (Nat.le_trans Z0 E6.1) (E_a3.ext E6) (Fe_a3.ext E6) (Fs_a3.ext E6) (V_aE.ext E6) (E_aE.ext E6) Mr hv0 hv1 hv2 (own_insK I_t0 Kc6) (own_insK I_t1 Kc6) (own_insK I_t2 Kc6)) hZ (own_w hw 139 rfl) (own_w hw 138 rfl) (by decide) (by decide)) (g := (mkF m 12 #[.val (.ref a1), .val (.ref a2), .val (.ref a3), .val (.ref a4)] [(.ref a3)])) rfl (by rw [hml]; rfl) (argsL := [(.ref a3)]) (rest := []) (lenOf pd_19_16 rfl) rfl (Nat.le_of_eq rfl) (hb hby d19_12) (fun _ _ => ⟨rfl, K7, (by decide : 2 + 3 ≤ _), (by decide : 32 + 8 ≤ _)⟩)
  dsimp only [Pt.U, Pt.locs, Pt.cells, Pt.slots] at X8 l8 y8 z8 st8 hQ8
  subst l8 y8 z8
  obtain ⟨bL, eL, rfl, N8q, ExL, EaL, FaL, ArL⟩ := hQ8
  have N8 := Fr.app N7 N8q
  have Kc8 : Keep h0 T8.heap [a1] := Kc6.ext ExL
  obtain ⟨cE, AE, SE⟩ := ArL
  have neL : a1 ≠ bL := ne_exa (((E_a1.ext E6).ext ExL)) EaL (by decide)
  have neE : a1 ≠ eL := ne_arr (((E_a1.ext E6).ext ExL)) (own_w hw 109 rfl) AE
  obtain ⟨_, _, ⟨T9, L9, k9, n9⟩, -, X9, ⟨Lc9, hQ9, l9, y9, z9⟩, st9⟩ := Jvm.LawKit.callS X8 hx (y := own_y22) hown (mvT hZ (own_w hw 162 rfl)) (mvT hZ (own_w hw 163 rfl)) (mvT hZ (own_w hw 116 rfl)) (mvT hZ (own_w hw 164 rfl)) (by decide) (backOf (W := 0) (rm_mcopy l Z a0 hw [] a4  T8.heap n0 (Nat.le_trans (Nat.le_trans Z0 E6.1) ExL.1) ((E_m.ext E6).ext ExL)) hZ (own_w hw 164 rfl) (own_w hw 116 rfl) (by decide) (by decide)) (g := (mkF m 17 #[.val (.ref a1), .val (.ref a2), .val (.ref bL), .val (.ref a4)] [(.ref a4)])) rfl (by rw [hml]; rfl) (argsL := [(.ref a4)]) (rest := []) (lenOf pd_19_19 rfl) rfl (Nat.le_of_eq rfl) (hb hby d19_17) (fun _ _ => ⟨rfl, rfl, (by decide : 5 + 0 ≤ _), (by decide : 40 + 0 ≤ _)⟩)
  dsimp only [Pt.U, Pt.locs, Pt.cells, Pt.slots] at X9 l9 y9 z9 st9 hQ9
  subst l9 y9 z9
  obtain ⟨rfl, N9q, K9⟩ := hQ9
  have N9 := Fr.app N8 N9q
  obtain ⟨cq10, kq10, q10a, q10b, q10c⟩ := isOf hZ K9 ((E_m.ext E6).ext ExL)
  obtain ⟨_, _, ⟨T10, L10, k10, n10⟩, -, X10, ⟨Lc10, hQ10, l10, y10, z10⟩, st10⟩ := X9.interfaceBack hx (xi := own_y33) (y := own_y23) hown (mvT hZ (own_w hw 167 rfl)) (mvT hZ (own_w hw 168 rfl)) (mvT hZ (own_w hw 169 rfl)) (mvT hZ (own_w hw 170 rfl)) (mvT hZ (own_w hw 171 rfl)) (mvT hZ (own_w hw 172 rfl)) (mvT hZ (own_w hw 173 rfl)) (mvT hZ (own_w hw 174 rfl)) (by decide) (backOf (W := 0) (rm_mempty l Z a0 hw [] a4  T8.heap n0 (Nat.le_trans (Nat.le_trans Z0 E6.1) ExL.1) ((F_m.ext E6).ext ExL)) hZ (own_w hw 176 rfl) (own_w hw 175 rfl) (by decide) (by decide)) q10a q10b q10c (g := (mkF m 22 #[.val (.ref a1), .val (.ref a2), .val (.ref bL), .val (.ref a4)] [(.ref a4)])) rfl (by rw [hml]; rfl) (Steps.refl _) (argsL := []) (rest := []) (lenOf pd_19_17 rfl) rfl (Nat.le_of_eq rfl) (hb hby d19_22) (fun _ _ => ⟨rfl, K9, (by decide : 5 + 0 ≤ _), (by decide : 40 + 0 ≤ _)⟩)
  dsimp only [Pt.U, Pt.locs, Pt.cells, Pt.slots] at X10 l10 y10 z10 st10 hQ10
  subst l10 y10 z10
  obtain ⟨rfl, N10q, K10⟩ := hQ10
  have N10 := Fr.app N9 N10q
  obtain ⟨T11, h11, X11, e11, W11, st11⟩ := putF X10 hx hZ hown (host := "") (Or.inl (own_w hw 179 rfl)) Via.refl K10 ((F_initial_a1.ext E6).ext ExL) ((E_a1.ext E6).ext ExL) (Or.inr ⟨(own_w hw 180 rfl), rfl, hnm⟩) (own_w hw 109 rfl) (ty := (.object "java/lang/String")) (by decide) rfl rfl (g := (mkF m 37 #[.val (.ref a1), .val (.ref a2), .val (.ref bL), .val (.ref a4)] [(.ref a2), (.ref a1)])) rfl rfl (hb hby d19_37)
  have Fw11 := ((F_initial_a1.ext E6).ext ExL).same W11
  have K11 : Keep h0 h11 [a1] := Kc8.wr W11 (Or.inl (List.mem_of_getElem? (i := 0) rfl))
  have N11 := Fr.snoc X11 N10 g_a1
  obtain ⟨T12, h12, X12, e12, W12, st12⟩ := putF X11 hx hZ hown (host := "") (Or.inl (own_w hw 181 rfl)) Via.refl e11 (((F_transitions_a1.ext E6).ext ExL).other W11 (Or.inr (slot_ne (Or.inr (own_w hw 182 rfl)) (Or.inr (own_w hw 180 rfl)) (by decide) (t := (.object "java/util/List")) (t' := (.object "java/lang/String")) (by decide) (by decide)))) (((E_a1.ext E6).ext ExL).wr W11) (Or.inr ⟨(own_w hw 182 rfl), rfl, hnm⟩) (own_w hw 109 rfl) (ty := (.object "java/util/List")) (by decide) rfl rfl (g := (mkF m 42 #[.val (.ref a1), .val (.ref a2), .val (.ref bL), .val (.ref a4)] [(.ref bL), (.ref a1)])) rfl rfl (hb hby d19_42)
  have Fw12 := (((F_transitions_a1.ext E6).ext ExL).other W11 (Or.inr (slot_ne (Or.inr (own_w hw 182 rfl)) (Or.inr (own_w hw 180 rfl)) (by decide) (t := (.object "java/util/List")) (t' := (.object "java/lang/String")) (by decide) (by decide)))).same W12
  have K12 : Keep h0 h12 [a1] := K11.wr W12 (Or.inl (List.mem_of_getElem? (i := 0) rfl))
  have N12 := Fr.snoc X12 N11 g_a1
  obtain ⟨T13, h13, X13, e13, W13, st13⟩ := putF X12 hx hZ hown (host := "") (Or.inl (own_w hw 183 rfl)) Via.refl e12 ((((F_probabilities_a1.ext E6).ext ExL).other W11 (Or.inr (slot_ne (Or.inr (own_w hw 184 rfl)) (Or.inr (own_w hw 180 rfl)) (by decide) (t := (.object "java/util/Map")) (t' := (.object "java/lang/String")) (by decide) (by decide)))).other W12 (Or.inr (slot_ne (Or.inr (own_w hw 184 rfl)) (Or.inr (own_w hw 182 rfl)) (by decide) (t := (.object "java/util/Map")) (t' := (.object "java/util/List")) (by decide) (by decide)))) ((((E_a1.ext E6).ext ExL).wr W11).wr W12) (Or.inr ⟨(own_w hw 184 rfl), rfl, hnm⟩) (own_w hw 109 rfl) (ty := (.object "java/util/Map")) (by decide) rfl rfl (g := (mkF m 47 #[.val (.ref a1), .val (.ref a2), .val (.ref bL), .val (.ref a4)] [(.ref a4), (.ref a1)])) rfl rfl (hb hby d19_47)
  have Fw13 := ((((F_probabilities_a1.ext E6).ext ExL).other W11 (Or.inr (slot_ne (Or.inr (own_w hw 184 rfl)) (Or.inr (own_w hw 180 rfl)) (by decide) (t := (.object "java/util/Map")) (t' := (.object "java/lang/String")) (by decide) (by decide)))).other W12 (Or.inr (slot_ne (Or.inr (own_w hw 184 rfl)) (Or.inr (own_w hw 182 rfl)) (by decide) (t := (.object "java/util/Map")) (t' := (.object "java/util/List")) (by decide) (by decide)))).same W13
  have K13 : Keep h0 h13 [a1] := K12.wr W13 (Or.inl (List.mem_of_getElem? (i := 0) rfl))
  have N13 := Fr.snoc X13 N12 g_a1
  have hkEnd := Nat.le_trans (Nat.le_trans (Nat.le_trans (Nat.le_trans (Nat.le_trans hk ExL.1) (Keep.of_wr W11).1) (Keep.of_wr W12).1) (Keep.of_wr W13).1) (Nat.le_of_eq (congrArg Array.size e13).symm)
  obtain ⟨fs, hr, hrun, hended, hEW⟩ := X13.leaveW hS hkEnd (v := none) (fun _ => rfl)
  refine ⟨_, _, pre0 _ ?_, hrun, hended, _, _, rfl, ?_, hEW.1, hEW.2.1, hEW.2.2.1, hEW.2.2.2.mono (by decide) (by decide)⟩
  · show Steps _ _ _ (s₁.setTop (mkF m 0 #[.val (.ref a1), .val (.ref a2), .val (.ref a3), .val (.ref a4)] [])) _
    refine XS.aloadN X0.here hx rfl (hb hby d19_0) rfl rfl ?_
    show Steps _ _ _ (s₁.setTop (mkF m 1 #[.val (.ref a1), .val (.ref a2), .val (.ref a3), .val (.ref a4)] [(.ref a1)])) _
    refine st5.trans ?_
    show Steps _ _ _ (T5.setTop (mkF m 4 #[.val (.ref a1), .val (.ref a2), .val (.ref a3), .val (.ref a4)] [])) _
    refine XS.aloadN X5.here hx rfl (hb hby d19_4) rfl rfl ?_
    show Steps _ _ _ (T5.setTop (mkF m 5 #[.val (.ref a1), .val (.ref a2), .val (.ref a3), .val (.ref a4)] [(.ref a2)])) _
    refine st6 _ ?_
    show Steps _ _ _ (T6.setTop (mkF m 7 #[.val (.ref a1), .val (.ref a2), .val (.ref a3), .val (.ref a4)] [(.ref aS6), (.ref a2)])) _
    refine st7 _ ?_
    show Steps _ _ _ (T7.setTop (mkF m 10 #[.val (.ref a1), .val (.ref a2), .val (.ref a3), .val (.ref a4)] [(.ref a2)])) _
    refine XS.pop X7.here hx rfl (hb hby d19_10) rfl rfl ?_
    refine XS.aloadN X7.here hx rfl (hb hby d19_11) rfl rfl ?_
    show Steps _ _ _ (T7.setTop (mkF m 12 #[.val (.ref a1), .val (.ref a2), .val (.ref a3), .val (.ref a4)] [(.ref a3)])) _
    refine st8 _ ?_
    show Steps _ _ _ (T8.setTop (mkF m 15 #[.val (.ref a1), .val (.ref a2), .val (.ref a3), .val (.ref a4)] [(.ref bL)])) _
    refine XS.astoreN X8.here hx rfl (hb hby d19_15) rfl rfl (l' := #[.val (.ref a1), .val (.ref a2), .val (.ref bL), .val (.ref a4)]) rfl ?_
    refine XS.aloadN X8.here hx rfl (hb hby d19_16) rfl rfl ?_
    show Steps _ _ _ (T8.setTop (mkF m 17 #[.val (.ref a1), .val (.ref a2), .val (.ref bL), .val (.ref a4)] [(.ref a4)])) _
    refine st9 _ ?_
    show Steps _ _ _ (T9.setTop (mkF m 20 #[.val (.ref a1), .val (.ref a2), .val (.ref bL), .val (.ref a4)] [(.ref a4)])) _
    refine XS.astoreN X9.here hx rfl (hb hby d19_20) rfl rfl (l' := #[.val (.ref a1), .val (.ref a2), .val (.ref bL), .val (.ref a4)]) rfl ?_
    refine XS.aloadN X9.here hx rfl (hb hby d19_21) rfl rfl ?_
    show Steps _ _ _ (T9.setTop (mkF m 22 #[.val (.ref a1), .val (.ref a2), .val (.ref bL), .val (.ref a4)] [(.ref a4)])) _
    refine st10.trans ?_
    show Steps _ _ _ (T10.setTop (mkF m 27 #[.val (.ref a1), .val (.ref a2), .val (.ref bL), .val (.ref a4)] [(.int (1 : Int32))])) _
    refine XS.ifYes X10.here hx rfl (pc0 := 27) (pc' := 35) rfl (hb hby d19_27) rfl ((if0 _ _).trans (feq (by decide : ¬ ((1 : Int32) = (0 : Int32)))).2) (by decide) (by decide) ?_
    refine XS.aloadN X10.here hx rfl (hb hby d19_35) rfl rfl ?_
    refine XS.aloadN X10.here hx rfl (hb hby d19_36) rfl rfl ?_
    show Steps _ _ _ (T10.setTop (mkF m 37 #[.val (.ref a1), .val (.ref a2), .val (.ref bL), .val (.ref a4)] [(.ref a2), (.ref a1)])) _
    refine st11 _ ?_
    show Steps _ _ _ (T11.setTop (mkF m 40 #[.val (.ref a1), .val (.ref a2), .val (.ref bL), .val (.ref a4)] [])) _
    refine XS.aloadN X11.here hx rfl (hb hby d19_40) rfl rfl ?_
    refine XS.aloadN X11.here hx rfl (hb hby d19_41) rfl rfl ?_
    show Steps _ _ _ (T11.setTop (mkF m 42 #[.val (.ref a1), .val (.ref a2), .val (.ref bL), .val (.ref a4)] [(.ref bL), (.ref a1)])) _
    refine st12 _ ?_
    show Steps _ _ _ (T12.setTop (mkF m 45 #[.val (.ref a1), .val (.ref a2), .val (.ref bL), .val (.ref a4)] [])) _
    refine XS.aloadN X12.here hx rfl (hb hby d19_45) rfl rfl ?_
    refine XS.aloadN X12.here hx rfl (hb hby d19_46) rfl rfl ?_
    show Steps _ _ _ (T12.setTop (mkF m 47 #[.val (.ref a1), .val (.ref a2), .val (.ref bL), .val (.ref a4)] [(.ref a4), (.ref a1)])) _
    refine st13 _ ?_
    show Steps _ _ _ (T13.setTop (mkF m 50 #[.val (.ref a1), .val (.ref a2), .val (.ref bL), .val (.ref a4)] [])) _
    exact X13.returnOut hx Bd.returns (hb hby d19_50) hr
  · show Q_sm3_3 Z a1 a2 a3 a4 kA vs t0 t1 t2 aE aM u_initial_a1 u_transitions_a1 u_probabilities_a1 h0 n0 _ T13.heap _
    rw [e13]
    exact ⟨bL, rfl, N13, K13, (((((E_a1.ext E6).ext ExL).wr W11).wr W12).wr W13), (Fw12.other W13 (Or.inr (slot_ne (Or.inr (own_w hw 182 rfl)) (Or.inr (own_w hw 184 rfl)) (by decide) (t := (.object "java/util/List")) (t' := (.object "java/util/Map")) (by decide) (by decide)))), (((EaL.wr W11).wr W12).wr W13), eL, cE, (((FaL.other W11 (Or.inl (Ne.symm (neL)))).other W12 (Or.inl (Ne.symm (neL)))).other W13 (Or.inl (Ne.symm (neL)))), (((AE.other W11 (Ne.symm (neE))).other W12 (Ne.symm (neE))).other W13 (Ne.symm (neE))), SE⟩
theorem d17_0 : decode prog_16_method_2_code 0 = .ok (.aload_n 0, 1) := by decide +kernel
theorem d17_1 : decode prog_16_method_2_code 1 = .ok (.aload_n 1, 1) := by decide +kernel
theorem d17_2 : decode prog_16_method_2_code 2 = .ok (.aload_n 2, 1) := by decide +kernel
theorem d17_3 : decode prog_16_method_2_code 3 = .ok (.invokestatic 47, 3) := by decide +kernel
theorem d17_6 : decode prog_16_method_2_code 6 = .ok (.invokespecial 51, 3) := by decide +kernel
theorem d17_9 : decode prog_16_method_2_code 9 = .ok (.return_, 1) := by decide +kernel
theorem pn_17 : plainName "com/example/arcrover/arcrover/StateMachine" = true := by first | (simp [plainName, overriddenIn]; done) | decide +kernel
theorem pd_17_13 : parseMethodDescriptor "()Ljava/util/Map;" = some ⟨[], some (.object "java/util/Map")⟩ := by decide +kernel
theorem pd_17_14 : parseMethodDescriptor "(Ljava/lang/String;Ljava/util/List;Ljava/util/Map;)V" = some ⟨[(.object "java/lang/String"), (.object "java/util/List"), (.object "java/util/Map")], none⟩ := by decide +kernel
theorem ef_17 (m : MethodId) (x0 : Addr) (x1 : Addr) (x2 : Addr) : entryFrame m #[(.ref x0), (.ref x1), (.ref x2)] 3 = mkF m 0 #[.val (.ref x0), .val (.ref x1), .val (.ref x2)] [] := by first | (simp [entryFrame, mkF, argsToLocals, Value.category]; done) | rfl
def Q_sm2_0 (Z : State) (a1 : Addr) (a2 : Addr) (a3 : Addr) (wM : Addr) (wL : Addr) (u_initial_a1 : Value) (u_transitions_a1 : Value) (u_probabilities_a1 : Value) (h0 : Heap) (n0 : Nat) (v : Option Value) (h : Heap) (L : List Loc) : Prop := ∃ bL, v = none ∧ Fr n0 L ∧ Keep h0 h [a1] ∧ Exa Z h a1 "com/example/arcrover/arcrover/StateMachine" ∧ Fld Z h a1 "com/example/arcrover/arcrover/StateMachine" "transitions" "Ljava/util/List;" (.ref bL) ∧ bL = wL
theorem rm_sm2_0 (l : Launch) (Z : State) (a0 : Array Value) (hw : ∀ d ∈ tables_1, d.before a0 Z = true) (ws : List Jvm.Cond) (a1 : Addr) (a2 : Addr) (a3 : Addr) (wM : Addr) (wL : Addr) (u_initial_a1 : Value) (u_transitions_a1 : Value) (u_probabilities_a1 : Value) (h0 : Heap) (n0 : Nat) (Z0 : n0 ≤ h0.size) (Ol : Old Z n0 h0) (S_EMPTY_MAP : Sta Z Z.heap "java/util/ImmutableCollections" "EMPTY_MAP" "Ljava/util/ImmutableCollections$MapN;" (.ref wM)) (S_EMPTY_LIST : Sta Z Z.heap "java/util/ImmutableCollections" "EMPTY_LIST" "Ljava/util/ImmutableCollections$ListN;" (.ref wL)) (E_a3 : Exa Z h0 a3 "java/util/ArrayList") (Fs_a3 : Fld Z h0 a3 "java/util/ArrayList" "size" "I" (.int (0 : Int32))) (E_m : Exa Z h0 wM "java/util/ImmutableCollections$MapN") (F_m : Fld Z h0 wM "java/util/ImmutableCollections$MapN" "size" "I" (.int (0 : Int32))) (E_a1 : Exa Z h0 a1 "com/example/arcrover/arcrover/StateMachine") (F_initial_a1 : Fld Z h0 a1 "com/example/arcrover/arcrover/StateMachine" "initial" "Ljava/lang/String;" u_initial_a1) (F_transitions_a1 : Fld Z h0 a1 "com/example/arcrover/arcrover/StateMachine" "transitions" "Ljava/util/List;" u_transitions_a1) (F_probabilities_a1 : Fld Z h0 a1 "com/example/arcrover/arcrover/StateMachine" "probabilities" "Ljava/util/Map;" u_probabilities_a1) (g_a1 : n0 ≤ a1) :
    MetFree l own_y8 (head1 (Jvm.Cond.code own_y8 prog_16_method_2_code 3 none :: ws) own_r39) (fun a U => a = #[(.ref a1), (.ref a2), (.ref a3)] ∧ Z.Warmed39 U.vm ∧ U.heap = h0) (fun _ _ _ _ _ => True) (fun _ U o U' => ∃ v L, o = .returned v ∧ Q_sm2_0 Z a1 a2 a3 wM wL u_initial_a1 u_transitions_a1 u_probabilities_a1 h0 n0 v U'.heap L ∧ ReturnedEndW U o U' L own_r39.cells own_r39.slots) := by
  refine MetFree.of_bodySF (plainFor_of_name pn_17) hisR ?_
  intro p e s m args below meth c s₁ Bd hml0 hP hK
  obtain ⟨rfl, hZ, hh⟩ := hP
  have hx := Bd.exec
  have hby := Bd.bytes
  have hml : c.maxLocals = 3 := hml0
  have hown : s.vm.findClass "com/example/arcrover/arcrover/StateMachine" = some m.cls := findClass_of_methodNamed Bd.named
  have hnm := (name_of_methodNamed Bd.named Bd.method).1
  have X0 : Stand p l e own_r39 (s.setVm s.vm) m #[(.ref a1), (.ref a2), (.ref a3)] below meth c s₁ [] 0 0 := Stand.of_body Bd
  have hS : s.Since s.vm s.heap.size := (State.WarmedH.refl s).since s.heap.size
  have hk : s.heap.size ≤ h0.size := Nat.le_of_eq (congrArg Array.size hh)
  have e0 : s₁.heap = h0 := by rw [← hh, Bd.state]; rfl
  have N0 := Fr.nil n0
  have pre0 : ∀ t, Steps p.tables e below (s₁.setTop (mkF m 0 #[.val (.ref a1), .val (.ref a2), .val (.ref a3)] [])) t → Steps p.tables e below (s₁.setTop (entryFrame m #[(.ref a1), (.ref a2), (.ref a3)] 3)) t := fun t k => castTop (ef_17 m a1 a2 a3) k
  obtain ⟨_, _, ⟨T4, L4, k4, n4⟩, -, X4, ⟨Lc4, hQ4, l4, y4, z4⟩, st4⟩ := Jvm.LawKit.callS X0 hx (y := own_y21) hown (mvT hZ (own_w hw 114 rfl)) (mvT hZ (own_w hw 115 rfl)) (mvT hZ (own_w hw 116 rfl)) (mvT hZ (own_w hw 117 rfl)) (by decide) (backOf (W := 3) (rm_mapof l Z a0 hw []  wM h0 n0 Z0 Ol S_EMPTY_MAP) hZ (own_w hw 117 rfl) (own_w hw 116 rfl) (by decide) (by decide)) (g := (mkF m 3 #[.val (.ref a1), .val (.ref a2), .val (.ref a3)] [(.ref a3), (.ref a2), (.ref a1)])) rfl (by rw [hml]; rfl) (argsL := []) (rest := [(.ref a3), (.ref a2), (.ref a1)]) (lenOf pd_17_13 rfl) rfl (Nat.le_of_eq rfl) (hb hby d17_3) (fun _ _ => ⟨rfl, e0, (by decide : 0 + 0 ≤ _), (by decide : 0 + 0 ≤ _)⟩)
  dsimp only [Pt.U, Pt.locs, Pt.cells, Pt.slots] at X4 l4 y4 z4 st4 hQ4
  subst l4 y4 z4
  obtain ⟨rfl, N4q, K4⟩ := hQ4
  have N4 := Fr.app N0 N4q
  obtain ⟨_, _, ⟨T5, L5, k5, n5⟩, -, X5, hSn5, hGr5, ⟨Lc5, hQ5, l5, y5, z5⟩, st5⟩ := X4.specialBackS hx (y := own_y7) rfl hown (mvT hZ (own_w hw 120 rfl)) (mvT hZ (own_w hw 121 rfl)) (mvT hZ (own_w hw 122 rfl)) (by decide) (backOfS (W := 0) (rm_sm3_0 l Z a0 hw [] a1 a2 a3 wM wL u_initial_a1 u_transitions_a1 u_probabilities_a1 h0 n0 Z0 Ol S_EMPTY_LIST E_a3 Fs_a3 E_m F_m E_a1 F_initial_a1 g_a1 F_transitions_a1 F_probabilities_a1) hZ (own_w hw 122 rfl) (own_w hw 110 rfl) (by decide) (by decide)) (g := (mkF m 6 #[.val (.ref a1), .val (.ref a2), .val (.ref a3)] [(.ref wM), (.ref a3), (.ref a2), (.ref a1)])) rfl (by rw [hml]; rfl) (Steps.refl _) (a := a1) (argsL := [(.ref a2), (.ref a3), (.ref wM)]) (rest := []) (lenOf pd_17_14 rfl) rfl (Nat.le_of_eq rfl) (hb hby d17_6) (fun _ _ => ⟨rfl, K4, (by decide : 0 + 2 ≤ _), (by decide : 0 + 32 ≤ _)⟩)
  dsimp only [Pt.U, Pt.locs, Pt.cells, Pt.slots] at X5 l5 y5 z5 st5 hQ5 hSn5 hGr5
  subst l5 y5 z5
  obtain ⟨bL, rfl, N5q, Ks, Es, Ft, Ls⟩ := hQ5
  have N5 := Fr.app N4 N5q
  replace X5 : Stand p l e _ (s.setVm T5.vm) m _ below meth c T5 _ _ _ := X5
  have hS := hS.trans hSn5 (Nat.le_trans (by rw [K4]; exact hk) hGr5)
  have hk : T5.heap.size ≤ T5.heap.size := Nat.le_refl _
  have hZ := State.Warmed39.trans (t := s.setVm _) hZ hSn5.1
  have hown : (s.setVm T5.vm).vm.findClass "com/example/arcrover/arcrover/StateMachine" = some m.cls := by rw [show (s.setVm T5.vm).vm = T5.vm from rfl, hSn5.1.alike.findClass]; exact hown
  have hkEnd := hk
  obtain ⟨fs, hr, hrun, hended, hEW⟩ := X5.leaveW hS hkEnd (v := none) (fun _ => rfl)
  refine ⟨_, _, pre0 _ ?_, hrun, hended, _, _, rfl, ?_, hEW.1, hEW.2.1, hEW.2.2.1, hEW.2.2.2.mono (by decide) (by decide)⟩
  · show Steps _ _ _ (s₁.setTop (mkF m 0 #[.val (.ref a1), .val (.ref a2), .val (.ref a3)] [])) _
    refine XS.aloadN X0.here hx rfl (hb hby d17_0) rfl rfl ?_
    refine XS.aloadN X0.here hx rfl (hb hby d17_1) rfl rfl ?_
    refine XS.aloadN X0.here hx rfl (hb hby d17_2) rfl rfl ?_
    show Steps _ _ _ (s₁.setTop (mkF m 3 #[.val (.ref a1), .val (.ref a2), .val (.ref a3)] [(.ref a3), (.ref a2), (.ref a1)])) _
    refine st4 _ ?_
    show Steps _ _ _ (T4.setTop (mkF m 6 #[.val (.ref a1), .val (.ref a2), .val (.ref a3)] [(.ref wM), (.ref a3), (.ref a2), (.ref a1)])) _
    refine st5.trans ?_
    show Steps _ _ _ (T5.setTop (mkF m 9 #[.val (.ref a1), .val (.ref a2), .val (.ref a3)] [])) _
    exact X5.returnOut hx Bd.returns (hb hby d17_9) hr
  · show Q_sm2_0 Z a1 a2 a3 wM wL u_initial_a1 u_transitions_a1 u_probabilities_a1 h0 n0 _ T5.heap _
    exact ⟨bL, rfl, N5, Ks, Es, Ft, Ls⟩
def Q_sm2_1 (Z : State) (a1 : Addr) (a2 : Addr) (a3 : Addr) (wM : Addr) (kA : ClassId) (vs : List Value) (t0 : Addr) (aE : Addr) (aM : Addr) (wO : Addr) (u_initial_a1 : Value) (u_transitions_a1 : Value) (u_probabilities_a1 : Value) (h0 : Heap) (n0 : Nat) (v : Option Value) (h : Heap) (L : List Loc) : Prop := ∃ bL, v = none ∧ Fr n0 L ∧ Keep h0 h [a1] ∧ Exa Z h a1 "com/example/arcrover/arcrover/StateMachine" ∧ Fld Z h a1 "com/example/arcrover/arcrover/StateMachine" "transitions" "Ljava/util/List;" (.ref bL) ∧ Exa Z h bL "java/util/ImmutableCollections$List12" ∧ Fld Z h bL "java/util/ImmutableCollections$List12" "e1" "Ljava/lang/Object;" (.ref wO)
theorem rm_sm2_1 (l : Launch) (Z : State) (a0 : Array Value) (hw : ∀ d ∈ tables_1, d.before a0 Z = true) (ws : List Jvm.Cond) (a1 : Addr) (a2 : Addr) (a3 : Addr) (wM : Addr) (kA : ClassId) (vs : List Value) (t0 : Addr) (aE : Addr) (aM : Addr) (wO : Addr) (u_initial_a1 : Value) (u_transitions_a1 : Value) (u_probabilities_a1 : Value) (h0 : Heap) (n0 : Nat) (Z0 : n0 ≤ h0.size) (Ol : Old Z n0 h0) (S_EMPTY_MAP : Sta Z Z.heap "java/util/ImmutableCollections" "EMPTY_MAP" "Ljava/util/ImmutableCollections$MapN;" (.ref wM)) (S_EMPTY : Sta Z Z.heap "java/util/ImmutableCollections" "EMPTY" "Ljava/lang/Object;" (.ref wO)) (E_a3 : Exa Z h0 a3 "java/util/ArrayList") (Fe_a3 : Fld Z h0 a3 "java/util/ArrayList" "elementData" "[Ljava/lang/Object;" (.ref aE)) (Fs_a3 : Fld Z h0 a3 "java/util/ArrayList" "size" "I" (.int (1 : Int32))) (V_aE : Arv Z h0 aE kA (.object "java/lang/Object") (10 : Int32) vs .null) (E_aE : Exa Z h0 aE "[Ljava/lang/Object;") (Mr : own_mir Z "[Ljava/lang/Object;" aM) (hv0 : vs.getD 0 .null = .ref t0) (I_t0 : Ins Z h0 t0 "java/lang/Object" true) (E_m : Exa Z h0 wM "java/util/ImmutableCollections$MapN") (F_m : Fld Z h0 wM "java/util/ImmutableCollections$MapN" "size" "I" (.int (0 : Int32))) (E_a1 : Exa Z h0 a1 "com/example/arcrover/arcrover/StateMachine") (F_initial_a1 : Fld Z h0 a1 "com/example/arcrover/arcrover/StateMachine" "initial" "Ljava/lang/String;" u_initial_a1) (F_transitions_a1 : Fld Z h0 a1 "com/example/arcrover/arcrover/StateMachine" "transitions" "Ljava/util/List;" u_transitions_a1) (F_probabilities_a1 : Fld Z h0 a1 "com/example/arcrover/arcrover/StateMachine" "probabilities" "Ljava/util/Map;" u_probabilities_a1) (g_a1 : n0 ≤ a1) :
    MetFree l own_y8 (head1 (Jvm.Cond.code own_y8 prog_16_method_2_code 3 none :: ws) own_r40) (fun a U => a = #[(.ref a1), (.ref a2), (.ref a3)] ∧ Z.Warmed39 U.vm ∧ U.heap = h0) (fun _ _ _ _ _ => True) (fun _ U o U' => ∃ v L, o = .returned v ∧ Q_sm2_1 Z a1 a2 a3 wM kA vs t0 aE aM wO u_initial_a1 u_transitions_a1 u_probabilities_a1 h0 n0 v U'.heap L ∧ ReturnedEndW U o U' L own_r40.cells own_r40.slots) := by
  refine MetFree.of_bodySF (plainFor_of_name pn_17) hisR ?_
  intro p e s m args below meth c s₁ Bd hml0 hP hK
  obtain ⟨rfl, hZ, hh⟩ := hP
  have hx := Bd.exec
  have hby := Bd.bytes
  have hml : c.maxLocals = 3 := hml0
  have hown : s.vm.findClass "com/example/arcrover/arcrover/StateMachine" = some m.cls := findClass_of_methodNamed Bd.named
  have hnm := (name_of_methodNamed Bd.named Bd.method).1
  have X0 : Stand p l e own_r40 (s.setVm s.vm) m #[(.ref a1), (.ref a2), (.ref a3)] below meth c s₁ [] 0 0 := Stand.of_body Bd
  have hS : s.Since s.vm s.heap.size := (State.WarmedH.refl s).since s.heap.size
  have hk : s.heap.size ≤ h0.size := Nat.le_of_eq (congrArg Array.size hh)
  have e0 : s₁.heap = h0 := by rw [← hh, Bd.state]; rfl
  have N0 := Fr.nil n0
  have pre0 : ∀ t, Steps p.tables e below (s₁.setTop (mkF m 0 #[.val (.ref a1), .val (.ref a2), .val (.ref a3)] [])) t → Steps p.tables e below (s₁.setTop (entryFrame m #[(.ref a1), (.ref a2), (.ref a3)] 3)) t := fun t k => castTop (ef_17 m a1 a2 a3) k
  obtain ⟨_, _, ⟨T4, L4, k4, n4⟩, -, X4, ⟨Lc4, hQ4, l4, y4, z4⟩, st4⟩ := Jvm.LawKit.callS X0 hx (y := own_y21) hown (mvT hZ (own_w hw 114 rfl)) (mvT hZ (own_w hw 115 rfl)) (mvT hZ (own_w hw 116 rfl)) (mvT hZ (own_w hw 117 rfl)) (by decide) (backOf (W := 3) (rm_mapof l Z a0 hw []  wM h0 n0 Z0 Ol S_EMPTY_MAP) hZ (own_w hw 117 rfl) (own_w hw 116 rfl) (by decide) (by decide)) (g := (mkF m 3 #[.val (.ref a1), .val (.ref a2), .val (.ref a3)] [(.ref a3), (.ref a2), (.ref a1)])) rfl (by rw [hml]; rfl) (argsL := []) (rest := [(.ref a3), (.ref a2), (.ref a1)]) (lenOf pd_17_13 rfl) rfl (Nat.le_of_eq rfl) (hb hby d17_3) (fun _ _ => ⟨rfl, e0, (by decide : 0 + 0 ≤ _), (by decide : 0 + 0 ≤ _)⟩)
  dsimp only [Pt.U, Pt.locs, Pt.cells, Pt.slots] at X4 l4 y4 z4 st4 hQ4
  subst l4 y4 z4
  obtain ⟨rfl, N4q, K4⟩ := hQ4
  have N4 := Fr.app N0 N4q
  obtain ⟨_, _, ⟨T5, L5, k5, n5⟩, -, X5, hSn5, hGr5, ⟨Lc5, hQ5, l5, y5, z5⟩, st5⟩ := X4.specialBackS hx (y := own_y7) rfl hown (mvT hZ (own_w hw 120 rfl)) (mvT hZ (own_w hw 121 rfl)) (mvT hZ (own_w hw 122 rfl)) (by decide) (backOfS (W := 0) (rm_sm3_1 l Z a0 hw [] a1 a2 a3 wM kA vs t0 aE aM wO u_initial_a1 u_transitions_a1 u_probabilities_a1 h0 n0 Z0 Ol S_EMPTY E_a3 Fe_a3 Fs_a3 V_aE E_aE Mr hv0 I_t0 E_m F_m E_a1 F_initial_a1 g_a1 F_transitions_a1 F_probabilities_a1) hZ (own_w hw 122 rfl) (own_w hw 110 rfl) (by decide) (by decide)) (g := (mkF m 6 #[.val (.ref a1), .val (.ref a2), .val (.ref a3)] [(.ref wM), (.ref a3), (.ref a2), (.ref a1)])) rfl (by rw [hml]; rfl) (Steps.refl _) (a := a1) (argsL := [(.ref a2), (.ref a3), (.ref wM)]) (rest := []) (lenOf pd_17_14 rfl) rfl (Nat.le_of_eq rfl) (hb hby d17_6) (fun _ _ => ⟨rfl, K4, (by decide : 0 + 4 ≤ _), (by decide : 0 + 35 ≤ _)⟩)
  dsimp only [Pt.U, Pt.locs, Pt.cells, Pt.slots] at X5 l5 y5 z5 st5 hQ5 hSn5 hGr5
  subst l5 y5 z5
  obtain ⟨bL, rfl, N5q, Ks, Es, Ft, Ls⟩ := hQ5
  have N5 := Fr.app N4 N5q
  replace X5 : Stand p l e _ (s.setVm T5.vm) m _ below meth c T5 _ _ _ := X5
  have hS := hS.trans hSn5 (Nat.le_trans (by rw [K4]; exact hk) hGr5)
  have hk : T5.heap.size ≤ T5.heap.size := Nat.le_refl _
  have hZ := State.Warmed39.trans (t := s.setVm _) hZ hSn5.1
  have hown : (s.setVm T5.vm).vm.findClass "com/example/arcrover/arcrover/StateMachine" = some m.cls := by rw [show (s.setVm T5.vm).vm = T5.vm from rfl, hSn5.1.alike.findClass]; exact hown
  have hkEnd := hk
  obtain ⟨fs, hr, hrun, hended, hEW⟩ := X5.leaveW hS hkEnd (v := none) (fun _ => rfl)
  refine ⟨_, _, pre0 _ ?_, hrun, hended, _, _, rfl, ?_, hEW.1, hEW.2.1, hEW.2.2.1, hEW.2.2.2.mono (by decide) (by decide)⟩
  · show Steps _ _ _ (s₁.setTop (mkF m 0 #[.val (.ref a1), .val (.ref a2), .val (.ref a3)] [])) _
    refine XS.aloadN X0.here hx rfl (hb hby d17_0) rfl rfl ?_
    refine XS.aloadN X0.here hx rfl (hb hby d17_1) rfl rfl ?_
    refine XS.aloadN X0.here hx rfl (hb hby d17_2) rfl rfl ?_
    show Steps _ _ _ (s₁.setTop (mkF m 3 #[.val (.ref a1), .val (.ref a2), .val (.ref a3)] [(.ref a3), (.ref a2), (.ref a1)])) _
    refine st4 _ ?_
    show Steps _ _ _ (T4.setTop (mkF m 6 #[.val (.ref a1), .val (.ref a2), .val (.ref a3)] [(.ref wM), (.ref a3), (.ref a2), (.ref a1)])) _
    refine st5.trans ?_
    show Steps _ _ _ (T5.setTop (mkF m 9 #[.val (.ref a1), .val (.ref a2), .val (.ref a3)] [])) _
    exact X5.returnOut hx Bd.returns (hb hby d17_9) hr
  · show Q_sm2_1 Z a1 a2 a3 wM kA vs t0 aE aM wO u_initial_a1 u_transitions_a1 u_probabilities_a1 h0 n0 _ T5.heap _
    exact ⟨bL, rfl, N5, Ks, Es, Ft, Ls⟩
def Q_sm2_2 (Z : State) (a1 : Addr) (a2 : Addr) (a3 : Addr) (wM : Addr) (kA : ClassId) (vs : List Value) (t0 : Addr) (t1 : Addr) (aE : Addr) (aM : Addr) (u_initial_a1 : Value) (u_transitions_a1 : Value) (u_probabilities_a1 : Value) (h0 : Heap) (n0 : Nat) (v : Option Value) (h : Heap) (L : List Loc) : Prop := ∃ bL, v = none ∧ Fr n0 L ∧ Keep h0 h [a1] ∧ Exa Z h a1 "com/example/arcrover/arcrover/StateMachine" ∧ Fld Z h a1 "com/example/arcrover/arcrover/StateMachine" "transitions" "Ljava/util/List;" (.ref bL) ∧ Exa Z h bL "java/util/ImmutableCollections$List12" ∧ Fld Z h bL "java/util/ImmutableCollections$List12" "e1" "Ljava/lang/Object;" (.ref t1)
theorem rm_sm2_2 (l : Launch) (Z : State) (a0 : Array Value) (hw : ∀ d ∈ tables_1, d.before a0 Z = true) (ws : List Jvm.Cond) (a1 : Addr) (a2 : Addr) (a3 : Addr) (wM : Addr) (kA : ClassId) (vs : List Value) (t0 : Addr) (t1 : Addr) (aE : Addr) (aM : Addr) (u_initial_a1 : Value) (u_transitions_a1 : Value) (u_probabilities_a1 : Value) (h0 : Heap) (n0 : Nat) (Z0 : n0 ≤ h0.size) (Ol : Old Z n0 h0) (S_EMPTY_MAP : Sta Z Z.heap "java/util/ImmutableCollections" "EMPTY_MAP" "Ljava/util/ImmutableCollections$MapN;" (.ref wM)) (E_a3 : Exa Z h0 a3 "java/util/ArrayList") (Fe_a3 : Fld Z h0 a3 "java/util/ArrayList" "elementData" "[Ljava/lang/Object;" (.ref aE)) (Fs_a3 : Fld Z h0 a3 "java/util/ArrayList" "size" "I" (.int (2 : Int32))) (V_aE : Arv Z h0 aE kA (.object "java/lang/Object") (10 : Int32) vs .null) (E_aE : Exa Z h0 aE "[Ljava/lang/Object;") (Mr : own_mir Z "[Ljava/lang/Object;" aM) (hv0 : vs.getD 0 .null = .ref t0) (hv1 : vs.getD 1 .null = .ref t1) (I_t0 : Ins Z h0 t0 "java/lang/Object" true) (I_t1 : Ins Z h0 t1 "java/lang/Object" true) (E_m : Exa Z h0 wM "java/util/ImmutableCollections$MapN") (F_m : Fld Z h0 wM "java/util/ImmutableCollections$MapN" "size" "I" (.int (0 : Int32))) (E_a1 : Exa Z h0 a1 "com/example/arcrover/arcrover/StateMachine") (F_initial_a1 : Fld Z h0 a1 "com/example/arcrover/arcrover/StateMachine" "initial" "Ljava/lang/String;" u_initial_a1) (F_transitions_a1 : Fld Z h0 a1 "com/example/arcrover/arcrover/StateMachine" "transitions" "Ljava/util/List;" u_transitions_a1) (F_probabilities_a1 : Fld Z h0 a1 "com/example/arcrover/arcrover/StateMachine" "probabilities" "Ljava/util/Map;" u_probabilities_a1) (g_a1 : n0 ≤ a1) :
    MetFree l own_y8 (head1 (Jvm.Cond.code own_y8 prog_16_method_2_code 3 none :: ws) own_r41) (fun a U => a = #[(.ref a1), (.ref a2), (.ref a3)] ∧ Z.Warmed39 U.vm ∧ U.heap = h0) (fun _ _ _ _ _ => True) (fun _ U o U' => ∃ v L, o = .returned v ∧ Q_sm2_2 Z a1 a2 a3 wM kA vs t0 t1 aE aM u_initial_a1 u_transitions_a1 u_probabilities_a1 h0 n0 v U'.heap L ∧ ReturnedEndW U o U' L own_r41.cells own_r41.slots) := by
  refine MetFree.of_bodySF (plainFor_of_name pn_17) hisR ?_
  intro p e s m args below meth c s₁ Bd hml0 hP hK
  obtain ⟨rfl, hZ, hh⟩ := hP
  have hx := Bd.exec
  have hby := Bd.bytes
  have hml : c.maxLocals = 3 := hml0
  have hown : s.vm.findClass "com/example/arcrover/arcrover/StateMachine" = some m.cls := findClass_of_methodNamed Bd.named
  have hnm := (name_of_methodNamed Bd.named Bd.method).1
  have X0 : Stand p l e own_r41 (s.setVm s.vm) m #[(.ref a1), (.ref a2), (.ref a3)] below meth c s₁ [] 0 0 := Stand.of_body Bd
  have hS : s.Since s.vm s.heap.size := (State.WarmedH.refl s).since s.heap.size
  have hk : s.heap.size ≤ h0.size := Nat.le_of_eq (congrArg Array.size hh)
  have e0 : s₁.heap = h0 := by rw [← hh, Bd.state]; rfl
  have N0 := Fr.nil n0
  have pre0 : ∀ t, Steps p.tables e below (s₁.setTop (mkF m 0 #[.val (.ref a1), .val (.ref a2), .val (.ref a3)] [])) t → Steps p.tables e below (s₁.setTop (entryFrame m #[(.ref a1), (.ref a2), (.ref a3)] 3)) t := fun t k => castTop (ef_17 m a1 a2 a3) k
  obtain ⟨_, _, ⟨T4, L4, k4, n4⟩, -, X4, ⟨Lc4, hQ4, l4, y4, z4⟩, st4⟩ := Jvm.LawKit.callS X0 hx (y := own_y21) hown (mvT hZ (own_w hw 114 rfl)) (mvT hZ (own_w hw 115 rfl)) (mvT hZ (own_w hw 116 rfl)) (mvT hZ (own_w hw 117 rfl)) (by decide) (backOf (W := 3) (rm_mapof l Z a0 hw []  wM h0 n0 Z0 Ol S_EMPTY_MAP) hZ (own_w hw 117 rfl) (own_w hw 116 rfl) (by decide) (by decide)) (g := (mkF m 3 #[.val (.ref a1), .val (.ref a2), .val (.ref a3)] [(.ref a3), (.ref a2), (.ref a1)])) rfl (by rw [hml]; rfl) (argsL := []) (rest := [(.ref a3), (.ref a2), (.ref a1)]) (lenOf pd_17_13 rfl) rfl (Nat.le_of_eq rfl) (hb hby d17_3) (fun _ _ => ⟨rfl, e0, (by decide : 0 + 0 ≤ _), (by decide : 0 + 0 ≤ _)⟩)
  dsimp only [Pt.U, Pt.locs, Pt.cells, Pt.slots] at X4 l4 y4 z4 st4 hQ4
  subst l4 y4 z4
  obtain ⟨rfl, N4q, K4⟩ := hQ4
  have N4 := Fr.app N0 N4q
  obtain ⟨_, _, ⟨T5, L5, k5, n5⟩, -, X5, hSn5, hGr5, ⟨Lc5, hQ5, l5, y5, z5⟩, st5⟩ := X4.specialBackS hx (y := own_y7) rfl hown (mvT hZ (own_w hw 120 rfl)) (mvT hZ (own_w hw 121 rfl)) (mvT hZ (own_w hw 122 rfl)) (by decide) (backOfS (W := 0) (rm_sm3_2 l Z a0 hw [] a1 a2 a3 wM kA vs t0 t1 aE aM u_initial_a1 u_transitions_a1 u_probabilities_a1 h0 n0 Z0 Ol E_a3 Fe_a3 Fs_a3 V_aE E_aE Mr hv0 hv1 I_t0 I_t1 E_m F_m E_a1 F_initial_a1 g_a1 F_transitions_a1 F_probabilities_a1) hZ (own_w hw 122 rfl) (own_w hw 110 rfl) (by decide) (by decide)) (g := (mkF m 6 #[.val (.ref a1), .val (.ref a2), .val (.ref a3)] [(.ref wM), (.ref a3), (.ref a2), (.ref a1)])) rfl (by rw [hml]; rfl) (Steps.refl _) (a := a1) (argsL := [(.ref a2), (.ref a3), (.ref wM)]) (rest := []) (lenOf pd_17_14 rfl) rfl (Nat.le_of_eq rfl) (hb hby d17_6) (fun _ _ => ⟨rfl, K4, (by decide : 0 + 4 ≤ _), (by decide : 0 + 36 ≤ _)⟩)
  dsimp only [Pt.U, Pt.locs, Pt.cells, Pt.slots] at X5 l5 y5 z5 st5 hQ5 hSn5 hGr5
  subst l5 y5 z5
  obtain ⟨bL, rfl, N5q, Ks, Es, Ft, Ls⟩ := hQ5
  have N5 := Fr.app N4 N5q
  replace X5 : Stand p l e _ (s.setVm T5.vm) m _ below meth c T5 _ _ _ := X5
  have hS := hS.trans hSn5 (Nat.le_trans (by rw [K4]; exact hk) hGr5)
  have hk : T5.heap.size ≤ T5.heap.size := Nat.le_refl _
  have hZ := State.Warmed39.trans (t := s.setVm _) hZ hSn5.1
  have hown : (s.setVm T5.vm).vm.findClass "com/example/arcrover/arcrover/StateMachine" = some m.cls := by rw [show (s.setVm T5.vm).vm = T5.vm from rfl, hSn5.1.alike.findClass]; exact hown
  have hkEnd := hk
  obtain ⟨fs, hr, hrun, hended, hEW⟩ := X5.leaveW hS hkEnd (v := none) (fun _ => rfl)
  refine ⟨_, _, pre0 _ ?_, hrun, hended, _, _, rfl, ?_, hEW.1, hEW.2.1, hEW.2.2.1, hEW.2.2.2.mono (by decide) (by decide)⟩
  · show Steps _ _ _ (s₁.setTop (mkF m 0 #[.val (.ref a1), .val (.ref a2), .val (.ref a3)] [])) _
    refine XS.aloadN X0.here hx rfl (hb hby d17_0) rfl rfl ?_
    refine XS.aloadN X0.here hx rfl (hb hby d17_1) rfl rfl ?_
    refine XS.aloadN X0.here hx rfl (hb hby d17_2) rfl rfl ?_
    show Steps _ _ _ (s₁.setTop (mkF m 3 #[.val (.ref a1), .val (.ref a2), .val (.ref a3)] [(.ref a3), (.ref a2), (.ref a1)])) _
    refine st4 _ ?_
    show Steps _ _ _ (T4.setTop (mkF m 6 #[.val (.ref a1), .val (.ref a2), .val (.ref a3)] [(.ref wM), (.ref a3), (.ref a2), (.ref a1)])) _
    refine st5.trans ?_
    show Steps _ _ _ (T5.setTop (mkF m 9 #[.val (.ref a1), .val (.ref a2), .val (.ref a3)] [])) _
    exact X5.returnOut hx Bd.returns (hb hby d17_9) hr
  · show Q_sm2_2 Z a1 a2 a3 wM kA vs t0 t1 aE aM u_initial_a1 u_transitions_a1 u_probabilities_a1 h0 n0 _ T5.heap _
    exact ⟨bL, rfl, N5, Ks, Es, Ft, Ls⟩
def Q_sm2_3 (Z : State) (a1 : Addr) (a2 : Addr) (a3 : Addr) (wM : Addr) (kA : ClassId) (vs : List Value) (t0 : Addr) (t1 : Addr) (t2 : Addr) (aE : Addr) (aM : Addr) (u_initial_a1 : Value) (u_transitions_a1 : Value) (u_probabilities_a1 : Value) (h0 : Heap) (n0 : Nat) (v : Option Value) (h : Heap) (L : List Loc) : Prop := ∃ bL, v = none ∧ Fr n0 L ∧ Keep h0 h [a1] ∧ Exa Z h a1 "com/example/arcrover/arcrover/StateMachine" ∧ Fld Z h a1 "com/example/arcrover/arcrover/StateMachine" "transitions" "Ljava/util/List;" (.ref bL) ∧ Exa Z h bL "java/util/ImmutableCollections$ListN" ∧ ∃ eA cE, Fld Z h bL "java/util/ImmutableCollections$ListN" "elements" "[Ljava/lang/Object;" (.ref eA) ∧ Arr Z h eA cE (.object "java/lang/Object") ∧ cE.slots.size = (3 : Int32).toNatClampNeg
theorem rm_sm2_3 (l : Launch) (Z : State) (a0 : Array Value) (hw : ∀ d ∈ tables_1, d.before a0 Z = true) (ws : List Jvm.Cond) (a1 : Addr) (a2 : Addr) (a3 : Addr) (wM : Addr) (kA : ClassId) (vs : List Value) (t0 : Addr) (t1 : Addr) (t2 : Addr) (aE : Addr) (aM : Addr) (u_initial_a1 : Value) (u_transitions_a1 : Value) (u_probabilities_a1 : Value) (h0 : Heap) (n0 : Nat) (Z0 : n0 ≤ h0.size) (Ol : Old Z n0 h0) (S_EMPTY_MAP : Sta Z Z.heap "java/util/ImmutableCollections" "EMPTY_MAP" "Ljava/util/ImmutableCollections$MapN;" (.ref wM)) (E_a3 : Exa Z h0 a3 "java/util/ArrayList") (Fe_a3 : Fld Z h0 a3 "java/util/ArrayList" "elementData" "[Ljava/lang/Object;" (.ref aE)) (Fs_a3 : Fld Z h0 a3 "java/util/ArrayList" "size" "I" (.int (3 : Int32))) (V_aE : Arv Z h0 aE kA (.object "java/lang/Object") (10 : Int32) vs .null) (E_aE : Exa Z h0 aE "[Ljava/lang/Object;") (Mr : own_mir Z "[Ljava/lang/Object;" aM) (hv0 : vs.getD 0 .null = .ref t0) (hv1 : vs.getD 1 .null = .ref t1) (hv2 : vs.getD 2 .null = .ref t2) (I_t0 : Ins Z h0 t0 "java/lang/Object" true) (I_t1 : Ins Z h0 t1 "java/lang/Object" true) (I_t2 : Ins Z h0 t2 "java/lang/Object" true) (E_m : Exa Z h0 wM "java/util/ImmutableCollections$MapN") (F_m : Fld Z h0 wM "java/util/ImmutableCollections$MapN" "size" "I" (.int (0 : Int32))) (E_a1 : Exa Z h0 a1 "com/example/arcrover/arcrover/StateMachine") (F_initial_a1 : Fld Z h0 a1 "com/example/arcrover/arcrover/StateMachine" "initial" "Ljava/lang/String;" u_initial_a1) (F_transitions_a1 : Fld Z h0 a1 "com/example/arcrover/arcrover/StateMachine" "transitions" "Ljava/util/List;" u_transitions_a1) (F_probabilities_a1 : Fld Z h0 a1 "com/example/arcrover/arcrover/StateMachine" "probabilities" "Ljava/util/Map;" u_probabilities_a1) (g_a1 : n0 ≤ a1) :
    MetFree l own_y8 (head1 (Jvm.Cond.code own_y8 prog_16_method_2_code 3 none :: ws) own_r42) (fun a U => a = #[(.ref a1), (.ref a2), (.ref a3)] ∧ Z.Warmed39 U.vm ∧ U.heap = h0) (fun _ _ _ _ _ => True) (fun _ U o U' => ∃ v L, o = .returned v ∧ Q_sm2_3 Z a1 a2 a3 wM kA vs t0 t1 t2 aE aM u_initial_a1 u_transitions_a1 u_probabilities_a1 h0 n0 v U'.heap L ∧ ReturnedEndW U o U' L own_r42.cells own_r42.slots) := by
  refine MetFree.of_bodySF (plainFor_of_name pn_17) hisR ?_
  intro p e s m args below meth c s₁ Bd hml0 hP hK
  obtain ⟨rfl, hZ, hh⟩ := hP
  have hx := Bd.exec
  have hby := Bd.bytes
  have hml : c.maxLocals = 3 := hml0
  have hown : s.vm.findClass "com/example/arcrover/arcrover/StateMachine" = some m.cls := findClass_of_methodNamed Bd.named
  have hnm := (name_of_methodNamed Bd.named Bd.method).1
  have X0 : Stand p l e own_r42 (s.setVm s.vm) m #[(.ref a1), (.ref a2), (.ref a3)] below meth c s₁ [] 0 0 := Stand.of_body Bd
  have hS : s.Since s.vm s.heap.size := (State.WarmedH.refl s).since s.heap.size
  have hk : s.heap.size ≤ h0.size := Nat.le_of_eq (congrArg Array.size hh)
  have e0 : s₁.heap = h0 := by rw [← hh, Bd.state]; rfl
  have N0 := Fr.nil n0
  have pre0 : ∀ t, Steps p.tables e below (s₁.setTop (mkF m 0 #[.val (.ref a1), .val (.ref a2), .val (.ref a3)] [])) t → Steps p.tables e below (s₁.setTop (entryFrame m #[(.ref a1), (.ref a2), (.ref a3)] 3)) t := fun t k => castTop (ef_17 m a1 a2 a3) k
  obtain ⟨_, _, ⟨T4, L4, k4, n4⟩, -, X4, ⟨Lc4, hQ4, l4, y4, z4⟩, st4⟩ := Jvm.LawKit.callS X0 hx (y := own_y21) hown (mvT hZ (own_w hw 114 rfl)) (mvT hZ (own_w hw 115 rfl)) (mvT hZ (own_w hw 116 rfl)) (mvT hZ (own_w hw 117 rfl)) (by decide) (backOf (W := 3) (rm_mapof l Z a0 hw []  wM h0 n0 Z0 Ol S_EMPTY_MAP) hZ (own_w hw 117 rfl) (own_w hw 116 rfl) (by decide) (by decide)) (g := (mkF m 3 #[.val (.ref a1), .val (.ref a2), .val (.ref a3)] [(.ref a3), (.ref a2), (.ref a1)])) rfl (by rw [hml]; rfl) (argsL := []) (rest := [(.ref a3), (.ref a2), (.ref a1)]) (lenOf pd_17_13 rfl) rfl (Nat.le_of_eq rfl) (hb hby d17_3) (fun _ _ => ⟨rfl, e0, (by decide : 0 + 0 ≤ _), (by decide : 0 + 0 ≤ _)⟩)
  dsimp only [Pt.U, Pt.locs, Pt.cells, Pt.slots] at X4 l4 y4 z4 st4 hQ4
  subst l4 y4 z4
  obtain ⟨rfl, N4q, K4⟩ := hQ4
  have N4 := Fr.app N0 N4q
  obtain ⟨_, _, ⟨T5, L5, k5, n5⟩, -, X5, hSn5, hGr5, ⟨Lc5, hQ5, l5, y5, z5⟩, st5⟩ := X4.specialBackS hx (y := own_y7) rfl hown (mvT hZ (own_w hw 120 rfl)) (mvT hZ (own_w hw 121 rfl)) (mvT hZ (own_w hw 122 rfl)) (by decide) (backOfS (W := 0) (rm_sm3_3 l Z a0 hw [] a1 a2 a3 wM kA vs t0 t1 t2 aE aM u_initial_a1 u_transitions_a1 u_probabilities_a1 h0 n0 Z0 Ol E_a3 Fe_a3 Fs_a3 V_aE E_aE Mr hv0 hv1 hv2 I_t0 I_t1 I_t2 E_m F_m E_a1 F_initial_a1 g_a1 F_transitions_a1 F_probabilities_a1) hZ (own_w hw 122 rfl) (own_w hw 110 rfl) (by decide) (by decide)) (g := (mkF m 6 #[.val (.ref a1), .val (.ref a2), .val (.ref a3)] [(.ref wM), (.ref a3), (.ref a2), (.ref a1)])) rfl (by rw [hml]; rfl) (Steps.refl _) (a := a1) (argsL := [(.ref a2), (.ref a3), (.ref wM)]) (rest := []) (lenOf pd_17_14 rfl) rfl (Nat.le_of_eq rfl) (hb hby d17_6) (fun _ _ => ⟨rfl, K4, (by decide : 0 + 5 ≤ _), (by decide : 0 + 40 ≤ _)⟩)
  dsimp only [Pt.U, Pt.locs, Pt.cells, Pt.slots] at X5 l5 y5 z5 st5 hQ5 hSn5 hGr5
  subst l5 y5 z5
  obtain ⟨bL, rfl, N5q, Ks, Es, Ft, Ls⟩ := hQ5
  have N5 := Fr.app N4 N5q
  replace X5 : Stand p l e _ (s.setVm T5.vm) m _ below meth c T5 _ _ _ := X5
  have hS := hS.trans hSn5 (Nat.le_trans (by rw [K4]; exact hk) hGr5)
  have hk : T5.heap.size ≤ T5.heap.size := Nat.le_refl _
  have hZ := State.Warmed39.trans (t := s.setVm _) hZ hSn5.1
  have hown : (s.setVm T5.vm).vm.findClass "com/example/arcrover/arcrover/StateMachine" = some m.cls := by rw [show (s.setVm T5.vm).vm = T5.vm from rfl, hSn5.1.alike.findClass]; exact hown
  have hkEnd := hk
  obtain ⟨fs, hr, hrun, hended, hEW⟩ := X5.leaveW hS hkEnd (v := none) (fun _ => rfl)
  refine ⟨_, _, pre0 _ ?_, hrun, hended, _, _, rfl, ?_, hEW.1, hEW.2.1, hEW.2.2.1, hEW.2.2.2.mono (by decide) (by decide)⟩
  · show Steps _ _ _ (s₁.setTop (mkF m 0 #[.val (.ref a1), .val (.ref a2), .val (.ref a3)] [])) _
    refine XS.aloadN X0.here hx rfl (hb hby d17_0) rfl rfl ?_
    refine XS.aloadN X0.here hx rfl (hb hby d17_1) rfl rfl ?_
    refine XS.aloadN X0.here hx rfl (hb hby d17_2) rfl rfl ?_
    show Steps _ _ _ (s₁.setTop (mkF m 3 #[.val (.ref a1), .val (.ref a2), .val (.ref a3)] [(.ref a3), (.ref a2), (.ref a1)])) _
    refine st4 _ ?_
    show Steps _ _ _ (T4.setTop (mkF m 6 #[.val (.ref a1), .val (.ref a2), .val (.ref a3)] [(.ref wM), (.ref a3), (.ref a2), (.ref a1)])) _
    refine st5.trans ?_
    show Steps _ _ _ (T5.setTop (mkF m 9 #[.val (.ref a1), .val (.ref a2), .val (.ref a3)] [])) _
    exact X5.returnOut hx Bd.returns (hb hby d17_9) hr
  · show Q_sm2_3 Z a1 a2 a3 wM kA vs t0 t1 t2 aE aM u_initial_a1 u_transitions_a1 u_probabilities_a1 h0 n0 _ T5.heap _
    exact ⟨bL, rfl, N5, Ks, Es, Ft, Ls⟩
theorem d28_0 : decode prog_2_method_1_code 0 = .ok (.aload_n 0, 1) := by decide +kernel
theorem d28_1 : decode prog_2_method_1_code 1 = .ok (.invokespecial 1, 3) := by decide +kernel
theorem d28_4 : decode prog_2_method_1_code 4 = .ok (.aload 8, 2) := by decide +kernel
theorem d28_6 : decode prog_2_method_1_code 6 = .ok (.invokestatic 7, 3) := by decide +kernel
theorem d28_9 : decode prog_2_method_1_code 9 = .ok (.astore 8, 2) := by decide +kernel
theorem d28_11 : decode prog_2_method_1_code 11 = .ok (.aload 11, 2) := by decide +kernel
theorem d28_13 : decode prog_2_method_1_code 13 = .ok (.invokestatic 7, 3) := by decide +kernel
theorem d28_16 : decode prog_2_method_1_code 16 = .ok (.astore 11, 2) := by decide +kernel
theorem d28_18 : decode prog_2_method_1_code 18 = .ok (.aload_n 0, 1) := by decide +kernel
theorem d28_19 : decode prog_2_method_1_code 19 = .ok (.aload_n 1, 1) := by decide +kernel
theorem d28_20 : decode prog_2_method_1_code 20 = .ok (.putfield 13, 3) := by decide +kernel
theorem d28_23 : decode prog_2_method_1_code 23 = .ok (.aload_n 0, 1) := by decide +kernel
theorem d28_24 : decode prog_2_method_1_code 24 = .ok (.iload_n 2, 1) := by decide +kernel
theorem d28_25 : decode prog_2_method_1_code 25 = .ok (.putfield 19, 3) := by decide +kernel
theorem d28_28 : decode prog_2_method_1_code 28 = .ok (.aload_n 0, 1) := by decide +kernel
theorem d28_29 : decode prog_2_method_1_code 29 = .ok (.iload_n 3, 1) := by decide +kernel
theorem d28_30 : decode prog_2_method_1_code 30 = .ok (.putfield 23, 3) := by decide +kernel
theorem d28_33 : decode prog_2_method_1_code 33 = .ok (.aload_n 0, 1) := by decide +kernel
theorem d28_34 : decode prog_2_method_1_code 34 = .ok (.lload 4, 2) := by decide +kernel
theorem d28_36 : decode prog_2_method_1_code 36 = .ok (.putfield 26, 3) := by decide +kernel
theorem d28_39 : decode prog_2_method_1_code 39 = .ok (.aload_n 0, 1) := by decide +kernel
theorem d28_40 : decode prog_2_method_1_code 40 = .ok (.lload 6, 2) := by decide +kernel
theorem d28_42 : decode prog_2_method_1_code 42 = .ok (.putfield 30, 3) := by decide +kernel
theorem d28_45 : decode prog_2_method_1_code 45 = .ok (.aload_n 0, 1) := by decide +kernel
theorem d28_46 : decode prog_2_method_1_code 46 = .ok (.aload 8, 2) := by decide +kernel
theorem d28_48 : decode prog_2_method_1_code 48 = .ok (.putfield 33, 3) := by decide +kernel
theorem d28_51 : decode prog_2_method_1_code 51 = .ok (.aload_n 0, 1) := by decide +kernel
theorem d28_52 : decode prog_2_method_1_code 52 = .ok (.aload 9, 2) := by decide +kernel
theorem d28_54 : decode prog_2_method_1_code 54 = .ok (.putfield 37, 3) := by decide +kernel
theorem d28_57 : decode prog_2_method_1_code 57 = .ok (.aload_n 0, 1) := by decide +kernel
theorem d28_58 : decode prog_2_method_1_code 58 = .ok (.aload 10, 2) := by decide +kernel
theorem d28_60 : decode prog_2_method_1_code 60 = .ok (.putfield 41, 3) := by decide +kernel
theorem d28_63 : decode prog_2_method_1_code 63 = .ok (.aload_n 0, 1) := by decide +kernel
theorem d28_64 : decode prog_2_method_1_code 64 = .ok (.aload 11, 2) := by decide +kernel
theorem d28_66 : decode prog_2_method_1_code 66 = .ok (.putfield 45, 3) := by decide +kernel
theorem d28_69 : decode prog_2_method_1_code 69 = .ok (.return_, 1) := by decide +kernel
theorem pn_28 : plainName "com/example/arcrover/arcrover/Exploration" = true := by first | (simp [plainName, overriddenIn]; done) | decide +kernel
theorem pd_28_4 : parseMethodDescriptor "()V" = some ⟨[], none⟩ := by decide +kernel
theorem pd_28_16 : parseMethodDescriptor "(Ljava/util/Collection;)Ljava/util/List;" = some ⟨[(.object "java/util/Collection")], some (.object "java/util/List")⟩ := by decide +kernel
theorem ef_28 (m : MethodId) (x0 : Addr) (x1 : Addr) (x2 : Int32) (x3 : Int32) (x4 : Int64) (x5 : Int64) (x6 : Addr) (x9 : Addr) : entryFrame m #[(.ref x0), (.ref x1), (.int x2), (.int x3), (.long x4), (.long x5), (.ref x6), .null, .null, (.ref x9)] 12 = mkF m 0 #[.val (.ref x0), .val (.ref x1), .val (.int x2), .val (.int x3), .val (.long x4), .second, .val (.long x5), .second, .val (.ref x6), .val .null, .val .null, .val (.ref x9)] [] := by first | (simp [entryFrame, mkF, argsToLocals, Value.category]; done) | rfl
def Q_xinit (Z : State) (a1 : Addr) (a2 : Addr) (p3 : Int32) (p4 : Int32) (q5 : Int64) (q6 : Int64) (a7 : Addr) (a8 : Addr) (kA : ClassId) (vs : List Value) (t0 : Addr) (aE : Addr) (aM : Addr) (wO : Addr) (wL : Addr) (u_graph_a1 : Value) (u_states_a1 : Value) (u_untried_a1 : Value) (u_stimuli_a1 : Value) (u_restarts_a1 : Value) (u_walkerStimuli_a1 : Value) (u_verdict_a1 : Value) (u_witness_a1 : Value) (u_rejections_a1 : Value) (h0 : Heap) (n0 : Nat) (v : Option Value) (h : Heap) (L : List Loc) : Prop := v = none ∧ Fr n0 L ∧ Keep h0 h [a1] ∧ Exa Z h a1 "com/example/arcrover/arcrover/Exploration" ∧ Fld Z h a1 "com/example/arcrover/arcrover/Exploration" "graph" "Lcom/example/arcrover/arcrover/StateMachine;" (.ref a2)
theorem rm_xinit (l : Launch) (Z : State) (a0 : Array Value) (hw : ∀ d ∈ tables_1, d.before a0 Z = true) (ws : List Jvm.Cond) (a1 : Addr) (a2 : Addr) (p3 : Int32) (p4 : Int32) (q5 : Int64) (q6 : Int64) (a7 : Addr) (a8 : Addr) (kA : ClassId) (vs : List Value) (t0 : Addr) (aE : Addr) (aM : Addr) (wO : Addr) (wL : Addr) (u_graph_a1 : Value) (u_states_a1 : Value) (u_untried_a1 : Value) (u_stimuli_a1 : Value) (u_restarts_a1 : Value) (u_walkerStimuli_a1 : Value) (u_verdict_a1 : Value) (u_witness_a1 : Value) (u_rejections_a1 : Value) (h0 : Heap) (n0 : Nat) (Z0 : n0 ≤ h0.size) (Ol : Old Z n0 h0) (S_EMPTY : Sta Z Z.heap "java/util/ImmutableCollections" "EMPTY" "Ljava/lang/Object;" (.ref wO)) (E_a7 : Exa Z h0 a7 "java/util/ArrayList") (Fe_a7 : Fld Z h0 a7 "java/util/ArrayList" "elementData" "[Ljava/lang/Object;" (.ref aE)) (Fs_a7 : Fld Z h0 a7 "java/util/ArrayList" "size" "I" (.int (1 : Int32))) (V_aE : Arv Z h0 aE kA (.object "java/lang/Object") (10 : Int32) vs .null) (E_aE : Exa Z h0 aE "[Ljava/lang/Object;") (Mr : own_mir Z "[Ljava/lang/Object;" aM) (hv0 : vs.getD 0 .null = .ref t0) (I_t0 : Ins Z h0 t0 "java/lang/Object" true) (S_EMPTY_LIST : Sta Z Z.heap "java/util/ImmutableCollections" "EMPTY_LIST" "Ljava/util/ImmutableCollections$ListN;" (.ref wL)) (E_a8 : Exa Z h0 a8 "java/util/ArrayList") (Fs_a8 : Fld Z h0 a8 "java/util/ArrayList" "size" "I" (.int (0 : Int32))) (E_a1 : Exa Z h0 a1 "com/example/arcrover/arcrover/Exploration") (F_graph_a1 : Fld Z h0 a1 "com/example/arcrover/arcrover/Exploration" "graph" "Lcom/example/arcrover/arcrover/StateMachine;" u_graph_a1) (g_a1 : n0 ≤ a1) (F_states_a1 : Fld Z h0 a1 "com/example/arcrover/arcrover/Exploration" "states" "I" u_states_a1) (F_untried_a1 : Fld Z h0 a1 "com/example/arcrover/arcrover/Exploration" "untried" "I" u_untried_a1) (F_stimuli_a1 : Fld Z h0 a1 "com/example/arcrover/arcrover/Exploration" "stimuli" "J" u_stimuli_a1) (F_restarts_a1 : Fld Z h0 a1 "com/example/arcrover/arcrover/Exploration" "restarts" "J" u_restarts_a1) (F_walkerStimuli_a1 : Fld Z h0 a1 "com/example/arcrover/arcrover/Exploration" "walkerStimuli" "Ljava/util/List;" u_walkerStimuli_a1) (F_verdict_a1 : Fld Z h0 a1 "com/example/arcrover/arcrover/Exploration" "verdict" "Lcom/example/arcrover/arcrover/Verdict;" u_verdict_a1) (F_witness_a1 : Fld Z h0 a1 "com/example/arcrover/arcrover/Exploration" "witness" "Lcom/example/arcrover/arcrover/Witness;" u_witness_a1) (F_rejections_a1 : Fld Z h0 a1 "com/example/arcrover/arcrover/Exploration" "rejections" "Ljava/util/List;" u_rejections_a1) :
    MetFree l own_y26 (head1 (Jvm.Cond.code own_y26 prog_2_method_1_code 12 none :: ws) own_r43) (fun a U => a = #[(.ref a1), (.ref a2), (.int p3), (.int p4), (.long q5), (.long q6), (.ref a7), .null, .null, (.ref a8)] ∧ Z.Warmed39 U.vm ∧ U.heap = h0) (fun _ _ _ _ _ => True) (fun _ U o U' => ∃ v L, o = .returned v ∧ Q_xinit Z a1 a2 p3 p4 q5 q6 a7 a8 kA vs t0 aE aM wO wL u_graph_a1 u_states_a1 u_untried_a1 u_stimuli_a1 u_restarts_a1 u_walkerStimuli_a1 u_verdict_a1 u_witness_a1 u_rejections_a1 h0 n0 v U'.heap L ∧ FrameEnd U o U' L own_r43.cells own_r43.slots) := by
  refine MetFree.of_bodySF (plainFor_of_name pn_28) hisR ?_
  intro p e s m args below meth c s₁ Bd hml0 hP hK
  obtain ⟨rfl, hZ, hh⟩ := hP
  have hx := Bd.exec
  have hby := Bd.bytes
  have hml : c.maxLocals = 12 := hml0
  have hown : s.vm.findClass "com/example/arcrover/arcrover/Exploration" = some m.cls := findClass_of_methodNamed Bd.named
  have hnm := (name_of_methodNamed Bd.named Bd.method).1
  have X0 : Stand p l e own_r43 s m #[(.ref a1), (.ref a2), (.int p3), (.int p4), (.long q5), (.long q6), (.ref a7), .null, .null, (.ref a8)] below meth c s₁ [] 0 0 := Stand.of_body Bd
  have e0 : s₁.heap = h0 := by rw [← hh, Bd.state]; rfl
  have N0 := Fr.nil n0
  have pre0 : ∀ t, Steps p.tables e below (s₁.setTop (mkF m 0 #[.val (.ref a1), .val (.ref a2), .val (.int p3), .val (.int p4), .val (.long q5), .second, .val (.long q6), .second, .val (.ref a7), .val .null, .val .null, .val (.ref a8)] [])) t → Steps p.tables e below (s₁.setTop (entryFrame m #[(.ref a1), (.ref a2), (.int p3), (.int p4), (.long q5), (.long q6), (.ref a7), .null, .null, (.ref a8)] 12)) t := fun t k => castTop (ef_28 m a1 a2 p3 p4 q5 q6 a7 a8) k
  obtain ⟨_, _, ⟨T9, L9, k9, n9⟩, -, X9, ⟨Lc9, hQ9, l9, y9, z9⟩, st9⟩ := X0.specialBack hx (y := own_y16) rfl hown (mvT hZ (own_w hw 188 rfl)) (mvT hZ (own_w hw 124 rfl)) (mvT hZ (own_w hw 127 rfl)) (by decide) (backOf (W := 0) (rm_rec l Z a0 hw [] a1  h0 n0 Z0) hZ (own_w hw 127 rfl) (own_w hw 126 rfl) (by decide) (by decide)) (g := (mkF m 1 #[.val (.ref a1), .val (.ref a2), .val (.int p3), .val (.int p4), .val (.long q5), .second, .val (.long q6), .second, .val (.ref a7), .val .null, .val .null, .val (.ref a8)] [(.ref a1)])) rfl (by rw [hml]; rfl) (Steps.refl _) (a := a1) (argsL := []) (rest := []) (lenOf pd_28_4 rfl) rfl (Nat.le_of_eq rfl) (hb hby d28_1) (fun _ _ => ⟨rfl, e0, (by decide : 0 + 0 ≤ _), (by decide : 0 + 0 ≤ _)⟩)
  dsimp only [Pt.U, Pt.locs, Pt.cells, Pt.slots] at X9 l9 y9 z9 st9 hQ9
  subst l9 y9 z9
  obtain ⟨rfl, N9q, K9⟩ := hQ9
  have N9 := Fr.app N0 N9q
  obtain ⟨_, _, ⟨T10, L10, k10, n10⟩, -, X10, ⟨Lc10, hQ10, l10, y10, z10⟩, st10⟩ := Jvm.LawKit.callS X9 hx (y := own_y5) hown (mvT hZ (own_w hw 189 rfl)) (mvT hZ (own_w hw 137 rfl)) (mvT hZ (own_w hw 138 rfl)) (mvT hZ (own_w hw 139 rfl)) (by decide) (backOf (W := 0) (rm_cof1 l Z a0 hw [] a7 kA vs t0 aE aM wO h0 n0 Z0 Ol S_EMPTY E_a7 Fe_a7 Fs_a7 V_aE E_aE Mr hv0 (own_insK I_t0 (Keep.refl h0 [a1]))) hZ (own_w hw 139 rfl) (own_w hw 138 rfl) (by decide) (by decide)) (g := (mkF m 6 #[.val (.ref a1), .val (.ref a2), .val (.int p3), .val (.int p4), .val (.long q5), .second, .val (.long q6), .second, .val (.ref a7), .val .null, .val .null, .val (.ref a8)] [(.ref a7)])) rfl (by rw [hml]; rfl) (argsL := [(.ref a7)]) (rest := []) (lenOf pd_28_16 rfl) rfl (Nat.le_of_eq rfl) (hb hby d28_6) (fun _ _ => ⟨rfl, K9, (by decide : 0 + 2 ≤ _), (by decide : 0 + 3 ≤ _)⟩)
  dsimp only [Pt.U, Pt.locs, Pt.cells, Pt.slots] at X10 l10 y10 z10 st10 hQ10
  subst l10 y10 z10
  obtain ⟨bL, rfl, N10q, ExL, EaL, F1L⟩ := hQ10
  have N10 := Fr.app N9 N10q
  have Kc10 : Keep h0 T10.heap [a1] := (Keep.refl h0 [a1]).ext ExL
  have f1 := (E_a8.ext ExL)
  have f2 := (Fs_a8.ext ExL)
  have Ol := (Ol.ext ExL)
  have Z0 : n0 ≤ _ := (Nat.le_trans Z0 ExL.1)
  obtain ⟨_, _, ⟨T11, L11, k11, n11⟩, -, X11, ⟨Lc11, hQ11, l11, y11, z11⟩, st11⟩ := Jvm.LawKit.callS X10 hx (y := own_y5) hown (mvT hZ (own_w hw 189 rfl)) (mvT hZ (own_w hw 137 rfl)) (mvT hZ (own_w hw 138 rfl)) (mvT hZ (own_w hw 139 rfl)) (by decide) (backOf (W := 0) (rm_cof0 l Z a0 hw [] a8 wL T10.heap n0 Z0 Ol S_EMPTY_LIST f1 f2) hZ (own_w hw 139 rfl) (own_w hw 138 rfl) (by decide) (by decide)) (g := (mkF m 13 #[.val (.ref a1), .val (.ref a2), .val (.int p3), .val (.int p4), .val (.long q5), .second, .val (.long q6), .second, .val (.ref bL), .val .null, .val .null, .val (.ref a8)] [(.ref a8)])) rfl (by rw [hml]; rfl) (argsL := [(.ref a8)]) (rest := []) (lenOf pd_28_16 rfl) rfl (Nat.le_of_eq rfl) (hb hby d28_13) (fun _ _ => ⟨rfl, rfl, (by decide : 2 + 0 ≤ _), (by decide : 3 + 0 ≤ _)⟩)
  dsimp only [Pt.U, Pt.locs, Pt.cells, Pt.slots] at X11 l11 y11 z11 st11 hQ11
  subst l11 y11 z11
  obtain ⟨rfl, N11q, K11⟩ := hQ11
  have N11 := Fr.app N10 N11q
  have f3 := (E_a1.ext ExL)
  have f4 := (F_graph_a1.ext ExL)
  obtain ⟨T12, h12, X12, e12, W12, st12⟩ := putF X11 hx hZ hown (host := "") (Or.inl (own_w hw 252 rfl)) Via.refl K11 f4 f3 (Or.inr ⟨(own_w hw 253 rfl), rfl, hnm⟩) (own_w hw 106 rfl) (ty := (.object "com/example/arcrover/arcrover/StateMachine")) (by decide) rfl rfl (g := (mkF m 20 #[.val (.ref a1), .val (.ref a2), .val (.int p3), .val (.int p4), .val (.long q5), .second, .val (.long q6), .second, .val (.ref bL), .val .null, .val .null, .val (.ref wL)] [(.ref a2), (.ref a1)])) rfl rfl (hb hby d28_20)
  have Fw12 := f4.same W12
  have K12 : Keep h0 h12 [a1] := Kc10.wr W12 (Or.inl (List.mem_of_getElem? (i := 0) rfl))
  have N12 := Fr.snoc X12 N11 g_a1
  have f5 := (f3.wr W12)
  have f6 := ((F_states_a1.ext ExL).other W12 (Or.inr (slot_ne (Or.inr (own_w hw 255 rfl)) (Or.inr (own_w hw 253 rfl)) (by decide) (t := .int) (t' := (.object "com/example/arcrover/arcrover/StateMachine")) (by decide) (by decide))))
  obtain ⟨T13, h13, X13, e13, W13, st13⟩ := putF X12 hx hZ hown (host := "") (Or.inl (own_w hw 254 rfl)) Via.refl e12 f6 f5 (Or.inr ⟨(own_w hw 255 rfl), rfl, hnm⟩) (own_w hw 106 rfl) (ty := .int) (by decide) rfl rfl (g := (mkF m 25 #[.val (.ref a1), .val (.ref a2), .val (.int p3), .val (.int p4), .val (.long q5), .second, .val (.long q6), .second, .val (.ref bL), .val .null, .val .null, .val (.ref wL)] [(.int p3), (.ref a1)])) rfl rfl (hb hby d28_25)
  have Fw13 := f6.same W13
  have K13 : Keep h0 h13 [a1] := K12.wr W13 (Or.inl (List.mem_of_getElem? (i := 0) rfl))
  have N13 := Fr.snoc X13 N12 g_a1
  have f7 := (f5.wr W13)
  have f8 := (((F_untried_a1.ext ExL).other W12 (Or.inr (slot_ne (Or.inr (own_w hw 257 rfl)) (Or.inr (own_w hw 253 rfl)) (by decide) (t := .int) (t' := (.object "com/example/arcrover/arcrover/StateMachine")) (by decide) (by decide)))).other W13 (Or.inr (slot_ne (Or.inr (own_w hw 257 rfl)) (Or.inr (own_w hw 255 rfl)) (by decide) (t := .int) (t' := .int) (by decide) (by decide))))
  obtain ⟨T14, h14, X14, e14, W14, st14⟩ := putF X13 hx hZ hown (host := "") (Or.inl (own_w hw 256 rfl)) Via.refl e13 f8 f7 (Or.inr ⟨(own_w hw 257 rfl), rfl, hnm⟩) (own_w hw 106 rfl) (ty := .int) (by decide) rfl rfl (g := (mkF m 30 #[.val (.ref a1), .val (.ref a2), .val (.int p3), .val (.int p4), .val (.long q5), .second, .val (.long q6), .second, .val (.ref bL), .val .null, .val .null, .val (.ref wL)] [(.int p4), (.ref a1)])) rfl rfl (hb hby d28_30)
  have Fw14 := f8.same W14
  have K14 : Keep h0 h14 [a1] := K13.wr W14 (Or.inl (List.mem_of_getElem? (i := 0) rfl))
  have N14 := Fr.snoc X14 N13 g_a1
  have f9 := (f7.wr W14)
  have f10 := ((((F_stimuli_a1.ext ExL).other W12 (Or.inr (slot_ne (Or.inr (own_w hw 259 rfl)) (Or.inr (own_w hw 253 rfl)) (by decide) (t := .long) (t' := (.object "com/example/arcrover/arcrover/StateMachine")) (by decide) (by decide)))).other W13 (Or.inr (slot_ne (Or.inr (own_w hw 259 rfl)) (Or.inr (own_w hw 255 rfl)) (by decide) (t := .long) (t' := .int) (by decide) (by decide)))).other W14 (Or.inr (slot_ne (Or.inr (own_w hw 259 rfl)) (Or.inr (own_w hw 257 rfl)) (by decide) (t := .long) (t' := .int) (by decide) (by decide))))
  obtain ⟨T15, h15, X15, e15, W15, st15⟩ := putF X14 hx hZ hown (host := "") (Or.inl (own_w hw 258 rfl)) Via.refl e14 f10 f9 (Or.inr ⟨(own_w hw 259 rfl), rfl, hnm⟩) (own_w hw 106 rfl) (ty := .long) (by decide) rfl rfl (g := (mkF m 36 #[.val (.ref a1), .val (.ref a2), .val (.int p3), .val (.int p4), .val (.long q5), .second, .val (.long q6), .second, .val (.ref bL), .val .null, .val .null, .val (.ref wL)] [(.long q5), (.ref a1)])) rfl rfl (hb hby d28_36)
  have Fw15 := f10.same W15
  have K15 : Keep h0 h15 [a1] := K14.wr W15 (Or.inl (List.mem_of_getElem? (i := 0) rfl))
  have N15 := Fr.snoc X15 N14 g_a1
  have f11 := (f9.wr W15)
  have f12 := (((((F_restarts_a1.ext ExL).other W12 (Or.inr (slot_ne (Or.inr (own_w hw 261 rfl)) (Or.inr (own_w hw 253 rfl)) (by decide) (t := .long) (t' := (.object "com/example/arcrover/arcrover/StateMachine")) (by decide) (by decide)))).other W13 (Or.inr (slot_ne (Or.inr (own_w hw 261 rfl)) (Or.inr (own_w hw 255 rfl)) (by decide) (t := .long) (t' := .int) (by decide) (by decide)))).other W14 (Or.inr (slot_ne (Or.inr (own_w hw 261 rfl)) (Or.inr (own_w hw 257 rfl)) (by decide) (t := .long) (t' := .int) (by decide) (by decide)))).other W15 (Or.inr (slot_ne (Or.inr (own_w hw 261 rfl)) (Or.inr (own_w hw 259 rfl)) (by decide) (t := .long) (t' := .long) (by decide) (by decide))))
  obtain ⟨T16, h16, X16, e16, W16, st16⟩ := putF X15 hx hZ hown (host := "") (Or.inl (own_w hw 260 rfl)) Via.refl e15 f12 f11 (Or.inr ⟨(own_w hw 261 rfl), rfl, hnm⟩) (own_w hw 106 rfl) (ty := .long) (by decide) rfl rfl (g := (mkF m 42 #[.val (.ref a1), .val (.ref a2), .val (.int p3), .val (.int p4), .val (.long q5), .second, .val (.long q6), .second, .val (.ref bL), .val .null, .val .null, .val (.ref wL)] [(.long q6), (.ref a1)])) rfl rfl (hb hby d28_42)
  have Fw16 := f12.same W16
  have K16 : Keep h0 h16 [a1] := K15.wr W16 (Or.inl (List.mem_of_getElem? (i := 0) rfl))
  have N16 := Fr.snoc X16 N15 g_a1
  have f13 := (f11.wr W16)
  have f14 := ((((((F_walkerStimuli_a1.ext ExL).other W12 (Or.inr (slot_ne (Or.inr (own_w hw 263 rfl)) (Or.inr (own_w hw 253 rfl)) (by decide) (t := (.object "java/util/List")) (t' := (.object "com/example/arcrover/arcrover/StateMachine")) (by decide) (by decide)))).other W13 (Or.inr (slot_ne (Or.inr (own_w hw 263 rfl)) (Or.inr (own_w hw 255 rfl)) (by decide) (t := (.object "java/util/List")) (t' := .int) (by decide) (by decide)))).other W14 (Or.inr (slot_ne (Or.inr (own_w hw 263 rfl)) (Or.inr (own_w hw 257 rfl)) (by decide) (t := (.object "java/util/List")) (t' := .int) (by decide) (by decide)))).other W15 (Or.inr (slot_ne (Or.inr (own_w hw 263 rfl)) (Or.inr (own_w hw 259 rfl)) (by decide) (t := (.object "java/util/List")) (t' := .long) (by decide) (by decide)))).other W16 (Or.inr (slot_ne (Or.inr (own_w hw 263 rfl)) (Or.inr (own_w hw 261 rfl)) (by decide) (t := (.object "java/util/List")) (t' := .long) (by decide) (by decide))))
  obtain ⟨T17, h17, X17, e17, W17, st17⟩ := putF X16 hx hZ hown (host := "") (Or.inl (own_w hw 262 rfl)) Via.refl e16 f14 f13 (Or.inr ⟨(own_w hw 263 rfl), rfl, hnm⟩) (own_w hw 106 rfl) (ty := (.object "java/util/List")) (by decide) rfl rfl (g := (mkF m 48 #[.val (.ref a1), .val (.ref a2), .val (.int p3), .val (.int p4), .val (.long q5), .second, .val (.long q6), .second, .val (.ref bL), .val .null, .val .null, .val (.ref wL)] [(.ref bL), (.ref a1)])) rfl rfl (hb hby d28_48)
  have Fw17 := f14.same W17
  have K17 : Keep h0 h17 [a1] := K16.wr W17 (Or.inl (List.mem_of_getElem? (i := 0) rfl))
  have N17 := Fr.snoc X17 N16 g_a1
  have f15 := (f13.wr W17)
  have f16 := (((((((F_verdict_a1.ext ExL).other W12 (Or.inr (slot_ne (Or.inr (own_w hw 265 rfl)) (Or.inr (own_w hw 253 rfl)) (by decide) (t := (.object "com/example/arcrover/arcrover/Verdict")) (t' := (.object "com/example/arcrover/arcrover/StateMachine")) (by decide) (by decide)))).other W13 (Or.inr (slot_ne (Or.inr (own_w hw 265 rfl)) (Or.inr (own_w hw 255 rfl)) (by decide) (t := (.object "com/example/arcrover/arcrover/Verdict")) (t' := .int) (by decide) (by decide)))).other W14 (Or.inr (slot_ne (Or.inr (own_w hw 265 rfl)) (Or.inr (own_w hw 257 rfl)) (by decide) (t := (.object "com/example/arcrover/arcrover/Verdict")) (t' := .int) (by decide) (by decide)))).other W15 (Or.inr (slot_ne (Or.inr (own_w hw 265 rfl)) (Or.inr (own_w hw 259 rfl)) (by decide) (t := (.object "com/example/arcrover/arcrover/Verdict")) (t' := .long) (by decide) (by decide)))).other W16 (Or.inr (slot_ne (Or.inr (own_w hw 265 rfl)) (Or.inr (own_w hw 261 rfl)) (by decide) (t := (.object "com/example/arcrover/arcrover/Verdict")) (t' := .long) (by decide) (by decide)))).other W17 (Or.inr (slot_ne (Or.inr (own_w hw 265 rfl)) (Or.inr (own_w hw 263 rfl)) (by decide) (t := (.object "com/example/arcrover/arcrover/Verdict")) (t' := (.object "java/util/List")) (by decide) (by decide))))
  obtain ⟨T18, h18, X18, e18, W18, st18⟩ := putF X17 hx hZ hown (host := "") (Or.inl (own_w hw 264 rfl)) Via.refl e17 f16 f15 (Or.inr ⟨(own_w hw 265 rfl), rfl, hnm⟩) (own_w hw 106 rfl) (ty := (.object "com/example/arcrover/arcrover/Verdict")) (by decide) rfl rfl (g := (mkF m 54 #[.val (.ref a1), .val (.ref a2), .val (.int p3), .val (.int p4), .val (.long q5), .second, .val (.long q6), .second, .val (.ref bL), .val .null, .val .null, .val (.ref wL)] [.null, (.ref a1)])) rfl rfl (hb hby d28_54)
  have Fw18 := f16.same W18
  have K18 : Keep h0 h18 [a1] := K17.wr W18 (Or.inl (List.mem_of_getElem? (i := 0) rfl))
  have N18 := Fr.snoc X18 N17 g_a1
  have f17 := (f15.wr W18)
  have f18 := ((((((((F_witness_a1.ext ExL).other W12 (Or.inr (slot_ne (Or.inr (own_w hw 267 rfl)) (Or.inr (own_w hw 253 rfl)) (by decide) (t := (.object "com/example/arcrover/arcrover/Witness")) (t' := (.object "com/example/arcrover/arcrover/StateMachine")) (by decide) (by decide)))).other W13 (Or.inr (slot_ne (Or.inr (own_w hw 267 rfl)) (Or.inr (own_w hw 255 rfl)) (by decide) (t := (.object "com/example/arcrover/arcrover/Witness")) (t' := .int) (by decide) (by decide)))).other W14 (Or.inr (slot_ne (Or.inr (own_w hw 267 rfl)) (Or.inr (own_w hw 257 rfl)) (by decide) (t := (.object "com/example/arcrover/arcrover/Witness")) (t' := .int) (by decide) (by decide)))).other W15 (Or.inr (slot_ne (Or.inr (own_w hw 267 rfl)) (Or.inr (own_w hw 259 rfl)) (by decide) (t := (.object "com/example/arcrover/arcrover/Witness")) (t' := .long) (by decide) (by decide)))).other W16 (Or.inr (slot_ne (Or.inr (own_w hw 267 rfl)) (Or.inr (own_w hw 261 rfl)) (by decide) (t := (.object "com/example/arcrover/arcrover/Witness")) (t' := .long) (by decide) (by decide)))).other W17 (Or.inr (slot_ne (Or.inr (own_w hw 267 rfl)) (Or.inr (own_w hw 263 rfl)) (by decide) (t := (.object "com/example/arcrover/arcrover/Witness")) (t' := (.object "java/util/List")) (by decide) (by decide)))).other W18 (Or.inr (slot_ne (Or.inr (own_w hw 267 rfl)) (Or.inr (own_w hw 265 rfl)) (by decide) (t := (.object "com/example/arcrover/arcrover/Witness")) (t' := (.object "com/example/arcrover/arcrover/Verdict")) (by decide) (by decide))))
  obtain ⟨T19, h19, X19, e19, W19, st19⟩ := putF X18 hx hZ hown (host := "") (Or.inl (own_w hw 266 rfl)) Via.refl e18 f18 f17 (Or.inr ⟨(own_w hw 267 rfl), rfl, hnm⟩) (own_w hw 106 rfl) (ty := (.object "com/example/arcrover/arcrover/Witness")) (by decide) rfl rfl (g := (mkF m 60 #[.val (.ref a1), .val (.ref a2), .val (.int p3), .val (.int p4), .val (.long q5), .second, .val (.long q6), .second, .val (.ref bL), .val .null, .val .null, .val (.ref wL)] [.null, (.ref a1)])) rfl rfl (hb hby d28_60)
  have Fw19 := f18.same W19
  have K19 : Keep h0 h19 [a1] := K18.wr W19 (Or.inl (List.mem_of_getElem? (i := 0) rfl))
  have N19 := Fr.snoc X19 N18 g_a1
  have f19 := (f17.wr W19)
  have f20 := (((((((((F_rejections_a1.ext ExL).other W12 (Or.inr (slot_ne (Or.inr (own_w hw 269 rfl)) (Or.inr (own_w hw 253 rfl)) (by decide) (t := (.object "java/util/List")) (t' := (.object "com/example/arcrover/arcrover/StateMachine")) (by decide) (by decide)))).other W13 (Or.inr (slot_ne (Or.inr (own_w hw 269 rfl)) (Or.inr (own_w hw 255 rfl)) (by decide) (t := (.object "java/util/List")) (t' := .int) (by decide) (by decide)))).other W14 (Or.inr (slot_ne (Or.inr (own_w hw 269 rfl)) (Or.inr (own_w hw 257 rfl)) (by decide) (t := (.object "java/util/List")) (t' := .int) (by decide) (by decide)))).other W15 (Or.inr (slot_ne (Or.inr (own_w hw 269 rfl)) (Or.inr (own_w hw 259 rfl)) (by decide) (t := (.object "java/util/List")) (t' := .long) (by decide) (by decide)))).other W16 (Or.inr (slot_ne (Or.inr (own_w hw 269 rfl)) (Or.inr (own_w hw 261 rfl)) (by decide) (t := (.object "java/util/List")) (t' := .long) (by decide) (by decide)))).other W17 (Or.inr (slot_ne (Or.inr (own_w hw 269 rfl)) (Or.inr (own_w hw 263 rfl)) (by decide) (t := (.object "java/util/List")) (t' := (.object "java/util/List")) (by decide) (by decide)))).other W18 (Or.inr (slot_ne (Or.inr (own_w hw 269 rfl)) (Or.inr (own_w hw 265 rfl)) (by decide) (t := (.object "java/util/List")) (t' := (.object "com/example/arcrover/arcrover/Verdict")) (by decide) (by decide)))).other W19 (Or.inr (slot_ne (Or.inr (own_w hw 269 rfl)) (Or.inr (own_w hw 267 rfl)) (by decide) (t := (.object "java/util/List")) (t' := (.object "com/example/arcrover/arcrover/Witness")) (by decide) (by decide))))
  obtain ⟨T20, h20, X20, e20, W20, st20⟩ := putF X19 hx hZ hown (host := "") (Or.inl (own_w hw 268 rfl)) Via.refl e19 f20 f19 (Or.inr ⟨(own_w hw 269 rfl), rfl, hnm⟩) (own_w hw 106 rfl) (ty := (.object "java/util/List")) (by decide) rfl rfl (g := (mkF m 66 #[.val (.ref a1), .val (.ref a2), .val (.int p3), .val (.int p4), .val (.long q5), .second, .val (.long q6), .second, .val (.ref bL), .val .null, .val .null, .val (.ref wL)] [(.ref wL), (.ref a1)])) rfl rfl (hb hby d28_66)
  have Fw20 := f20.same W20
  have K20 : Keep h0 h20 [a1] := K19.wr W20 (Or.inl (List.mem_of_getElem? (i := 0) rfl))
  have N20 := Fr.snoc X20 N19 g_a1
  obtain ⟨fs, hr, hrun, hended, hW, hsame⟩ := X20.leave (v := none) (fun _ => rfl)
  refine ⟨_, _, pre0 _ ?_, hrun, hended, _, _, rfl, ?_, ⟨_, rfl⟩, hW, hsame.mono (by decide) (by decide)⟩
  · show Steps _ _ _ (s₁.setTop (mkF m 0 #[.val (.ref a1), .val (.ref a2), .val (.int p3), .val (.int p4), .val (.long q5), .second, .val (.long q6), .second, .val (.ref a7), .val .null, .val .null, .val (.ref a8)] [])) _
    refine XS.aloadN X0.here hx rfl (hb hby d28_0) rfl rfl ?_
    show Steps _ _ _ (s₁.setTop (mkF m 1 #[.val (.ref a1), .val (.ref a2), .val (.int p3), .val (.int p4), .val (.long q5), .second, .val (.long q6), .second, .val (.ref a7), .val .null, .val .null, .val (.ref a8)] [(.ref a1)])) _
    refine st9.trans ?_
    show Steps _ _ _ (T9.setTop (mkF m 4 #[.val (.ref a1), .val (.ref a2), .val (.int p3), .val (.int p4), .val (.long q5), .second, .val (.long q6), .second, .val (.ref a7), .val .null, .val .null, .val (.ref a8)] [])) _
    refine XS.aload X9.here hx rfl (hb hby d28_4) rfl rfl ?_
    show Steps _ _ _ (T9.setTop (mkF m 6 #[.val (.ref a1), .val (.ref a2), .val (.int p3), .val (.int p4), .val (.long q5), .second, .val (.long q6), .second, .val (.ref a7), .val .null, .val .null, .val (.ref a8)] [(.ref a7)])) _
    refine st10 _ ?_
    show Steps _ _ _ (T10.setTop (mkF m 9 #[.val (.ref a1), .val (.ref a2), .val (.int p3), .val (.int p4), .val (.long q5), .second, .val (.long q6), .second, .val (.ref a7), .val .null, .val .null, .val (.ref a8)] [(.ref bL)])) _
    refine XS.astore X10.here hx rfl (hb hby d28_9) rfl rfl (l' := #[.val (.ref a1), .val (.ref a2), .val (.int p3), .val (.int p4), .val (.long q5), .second, .val (.long q6), .second, .val (.ref bL), .val .null, .val .null, .val (.ref a8)]) rfl ?_
    refine XS.aload X10.here hx rfl (hb hby d28_11) rfl rfl ?_
    show Steps _ _ _ (T10.setTop (mkF m 13 #[.val (.ref a1), .val (.ref a2), .val (.int p3), .val (.int p4), .val (.long q5), .second, .val (.long q6), .second, .val (.ref bL), .val .null, .val .null, .val (.ref a8)] [(.ref a8)])) _
    refine st11 _ ?_
    show Steps _ _ _ (T11.setTop (mkF m 16 #[.val (.ref a1), .val (.ref a2), .val (.int p3), .val (.int p4), .val (.long q5), .second, .val (.long q6), .second, .val (.ref bL), .val .null, .val .null, .val (.ref a8)] [(.ref wL)])) _
    refine XS.astore X11.here hx rfl (hb hby d28_16) rfl rfl (l' := #[.val (.ref a1), .val (.ref a2), .val (.int p3), .val (.int p4), .val (.long q5), .second, .val (.long q6), .second, .val (.ref bL), .val .null, .val .null, .val (.ref wL)]) rfl ?_
    refine XS.aloadN X11.here hx rfl (hb hby d28_18) rfl rfl ?_
    refine XS.aloadN X11.here hx rfl (hb hby d28_19) rfl rfl ?_
    show Steps _ _ _ (T11.setTop (mkF m 20 #[.val (.ref a1), .val (.ref a2), .val (.int p3), .val (.int p4), .val (.long q5), .second, .val (.long q6), .second, .val (.ref bL), .val .null, .val .null, .val (.ref wL)] [(.ref a2), (.ref a1)])) _
    refine st12 _ ?_
    show Steps _ _ _ (T12.setTop (mkF m 23 #[.val (.ref a1), .val (.ref a2), .val (.int p3), .val (.int p4), .val (.long q5), .second, .val (.long q6), .second, .val (.ref bL), .val .null, .val .null, .val (.ref wL)] [])) _
    refine XS.aloadN X12.here hx rfl (hb hby d28_23) rfl rfl ?_
    refine XS.iloadN X12.here hx rfl (hb hby d28_24) rfl ?_
    show Steps _ _ _ (T12.setTop (mkF m 25 #[.val (.ref a1), .val (.ref a2), .val (.int p3), .val (.int p4), .val (.long q5), .second, .val (.long q6), .second, .val (.ref bL), .val .null, .val .null, .val (.ref wL)] [(.int p3), (.ref a1)])) _
    refine st13 _ ?_
    show Steps _ _ _ (T13.setTop (mkF m 28 #[.val (.ref a1), .val (.ref a2), .val (.int p3), .val (.int p4), .val (.long q5), .second, .val (.long q6), .second, .val (.ref bL), .val .null, .val .null, .val (.ref wL)] [])) _
    refine XS.aloadN X13.here hx rfl (hb hby d28_28) rfl rfl ?_
    refine XS.iloadN X13.here hx rfl (hb hby d28_29) rfl ?_
    show Steps _ _ _ (T13.setTop (mkF m 30 #[.val (.ref a1), .val (.ref a2), .val (.int p3), .val (.int p4), .val (.long q5), .second, .val (.long q6), .second, .val (.ref bL), .val .null, .val .null, .val (.ref wL)] [(.int p4), (.ref a1)])) _
    refine st14 _ ?_
    show Steps _ _ _ (T14.setTop (mkF m 33 #[.val (.ref a1), .val (.ref a2), .val (.int p3), .val (.int p4), .val (.long q5), .second, .val (.long q6), .second, .val (.ref bL), .val .null, .val .null, .val (.ref wL)] [])) _
    refine XS.aloadN X14.here hx rfl (hb hby d28_33) rfl rfl ?_
    refine XS.lload X14.here hx rfl (hb hby d28_34) rfl ?_
    show Steps _ _ _ (T14.setTop (mkF m 36 #[.val (.ref a1), .val (.ref a2), .val (.int p3), .val (.int p4), .val (.long q5), .second, .val (.long q6), .second, .val (.ref bL), .val .null, .val .null, .val (.ref wL)] [(.long q5), (.ref a1)])) _
    refine st15 _ ?_
    show Steps _ _ _ (T15.setTop (mkF m 39 #[.val (.ref a1), .val (.ref a2), .val (.int p3), .val (.int p4), .val (.long q5), .second, .val (.long q6), .second, .val (.ref bL), .val .null, .val .null, .val (.ref wL)] [])) _
    refine XS.aloadN X15.here hx rfl (hb hby d28_39) rfl rfl ?_
    refine XS.lload X15.here hx rfl (hb hby d28_40) rfl ?_
    show Steps _ _ _ (T15.setTop (mkF m 42 #[.val (.ref a1), .val (.ref a2), .val (.int p3), .val (.int p4), .val (.long q5), .second, .val (.long q6), .second, .val (.ref bL), .val .null, .val .null, .val (.ref wL)] [(.long q6), (.ref a1)])) _
    refine st16 _ ?_
    show Steps _ _ _ (T16.setTop (mkF m 45 #[.val (.ref a1), .val (.ref a2), .val (.int p3), .val (.int p4), .val (.long q5), .second, .val (.long q6), .second, .val (.ref bL), .val .null, .val .null, .val (.ref wL)] [])) _
    refine XS.aloadN X16.here hx rfl (hb hby d28_45) rfl rfl ?_
    refine XS.aload X16.here hx rfl (hb hby d28_46) rfl rfl ?_
    show Steps _ _ _ (T16.setTop (mkF m 48 #[.val (.ref a1), .val (.ref a2), .val (.int p3), .val (.int p4), .val (.long q5), .second, .val (.long q6), .second, .val (.ref bL), .val .null, .val .null, .val (.ref wL)] [(.ref bL), (.ref a1)])) _
    refine st17 _ ?_
    show Steps _ _ _ (T17.setTop (mkF m 51 #[.val (.ref a1), .val (.ref a2), .val (.int p3), .val (.int p4), .val (.long q5), .second, .val (.long q6), .second, .val (.ref bL), .val .null, .val .null, .val (.ref wL)] [])) _
    refine XS.aloadN X17.here hx rfl (hb hby d28_51) rfl rfl ?_
    refine XS.aload X17.here hx rfl (hb hby d28_52) rfl rfl ?_
    show Steps _ _ _ (T17.setTop (mkF m 54 #[.val (.ref a1), .val (.ref a2), .val (.int p3), .val (.int p4), .val (.long q5), .second, .val (.long q6), .second, .val (.ref bL), .val .null, .val .null, .val (.ref wL)] [.null, (.ref a1)])) _
    refine st18 _ ?_
    show Steps _ _ _ (T18.setTop (mkF m 57 #[.val (.ref a1), .val (.ref a2), .val (.int p3), .val (.int p4), .val (.long q5), .second, .val (.long q6), .second, .val (.ref bL), .val .null, .val .null, .val (.ref wL)] [])) _
    refine XS.aloadN X18.here hx rfl (hb hby d28_57) rfl rfl ?_
    refine XS.aload X18.here hx rfl (hb hby d28_58) rfl rfl ?_
    show Steps _ _ _ (T18.setTop (mkF m 60 #[.val (.ref a1), .val (.ref a2), .val (.int p3), .val (.int p4), .val (.long q5), .second, .val (.long q6), .second, .val (.ref bL), .val .null, .val .null, .val (.ref wL)] [.null, (.ref a1)])) _
    refine st19 _ ?_
    show Steps _ _ _ (T19.setTop (mkF m 63 #[.val (.ref a1), .val (.ref a2), .val (.int p3), .val (.int p4), .val (.long q5), .second, .val (.long q6), .second, .val (.ref bL), .val .null, .val .null, .val (.ref wL)] [])) _
    refine XS.aloadN X19.here hx rfl (hb hby d28_63) rfl rfl ?_
    refine XS.aload X19.here hx rfl (hb hby d28_64) rfl rfl ?_
    show Steps _ _ _ (T19.setTop (mkF m 66 #[.val (.ref a1), .val (.ref a2), .val (.int p3), .val (.int p4), .val (.long q5), .second, .val (.long q6), .second, .val (.ref bL), .val .null, .val .null, .val (.ref wL)] [(.ref wL), (.ref a1)])) _
    refine st20 _ ?_
    show Steps _ _ _ (T20.setTop (mkF m 69 #[.val (.ref a1), .val (.ref a2), .val (.int p3), .val (.int p4), .val (.long q5), .second, .val (.long q6), .second, .val (.ref bL), .val .null, .val .null, .val (.ref wL)] [])) _
    exact X20.returnOut hx Bd.returns (hb hby d28_69) hr
  · show Q_xinit Z a1 a2 p3 p4 q5 q6 a7 a8 kA vs t0 aE aM wO wL u_graph_a1 u_states_a1 u_untried_a1 u_stimuli_a1 u_restarts_a1 u_walkerStimuli_a1 u_verdict_a1 u_witness_a1 u_rejections_a1 h0 n0 _ T20.heap _
    rw [e20]
    exact ⟨rfl, N20, K20, (f19.wr W20), ((((((((Fw12.other W13 (Or.inr (slot_ne (Or.inr (own_w hw 253 rfl)) (Or.inr (own_w hw 255 rfl)) (by decide) (t := (.object "com/example/arcrover/arcrover/StateMachine")) (t' := .int) (by decide) (by decide)))).other W14 (Or.inr (slot_ne (Or.inr (own_w hw 253 rfl)) (Or.inr (own_w hw 257 rfl)) (by decide) (t := (.object "com/example/arcrover/arcrover/StateMachine")) (t' := .int) (by decide) (by decide)))).other W15 (Or.inr (slot_ne (Or.inr (own_w hw 253 rfl)) (Or.inr (own_w hw 259 rfl)) (by decide) (t := (.object "com/example/arcrover/arcrover/StateMachine")) (t' := .long) (by decide) (by decide)))).other W16 (Or.inr (slot_ne (Or.inr (own_w hw 253 rfl)) (Or.inr (own_w hw 261 rfl)) (by decide) (t := (.object "com/example/arcrover/arcrover/StateMachine")) (t' := .long) (by decide) (by decide)))).other W17 (Or.inr (slot_ne (Or.inr (own_w hw 253 rfl)) (Or.inr (own_w hw 263 rfl)) (by decide) (t := (.object "com/example/arcrover/arcrover/StateMachine")) (t' := (.object "java/util/List")) (by decide) (by decide)))).other W18 (Or.inr (slot_ne (Or.inr (own_w hw 253 rfl)) (Or.inr (own_w hw 265 rfl)) (by decide) (t := (.object "com/example/arcrover/arcrover/StateMachine")) (t' := (.object "com/example/arcrover/arcrover/Verdict")) (by decide) (by decide)))).other W19 (Or.inr (slot_ne (Or.inr (own_w hw 253 rfl)) (Or.inr (own_w hw 267 rfl)) (by decide) (t := (.object "com/example/arcrover/arcrover/StateMachine")) (t' := (.object "com/example/arcrover/arcrover/Witness")) (by decide) (by decide)))).other W20 (Or.inr (slot_ne (Or.inr (own_w hw 253 rfl)) (Or.inr (own_w hw 269 rfl)) (by decide) (t := (.object "com/example/arcrover/arcrover/StateMachine")) (t' := (.object "java/util/List")) (by decide) (by decide))))⟩
theorem d38_0 : decode prog_2_method_2_code 0 = .ok (.aload_n 0, 1) := by decide +kernel
theorem d38_1 : decode prog_2_method_2_code 1 = .ok (.getfield 13, 3) := by decide +kernel
theorem d38_4 : decode prog_2_method_2_code 4 = .ok (.invokevirtual 48, 3) := by decide +kernel
theorem d38_7 : decode prog_2_method_2_code 7 = .ok (.invokeinterface 54 1, 5) := by decide +kernel
theorem d38_12 : decode prog_2_method_2_code 12 = .ok (.ireturn, 1) := by decide +kernel
theorem pn_38 : plainName "com/example/arcrover/arcrover/Exploration" = true := by first | (simp [plainName, overriddenIn]; done) | decide +kernel
theorem pd_38_18 : parseMethodDescriptor "()Ljava/util/List;" = some ⟨[], some (.object "java/util/List")⟩ := by decide +kernel
theorem pd_38_28 : parseMethodDescriptor "()I" = some ⟨[], some .int⟩ := by decide +kernel
theorem ef_38 (m : MethodId) (x0 : Addr) : entryFrame m #[(.ref x0)] 1 = mkF m 0 #[.val (.ref x0)] [] := by first | (simp [entryFrame, mkF, argsToLocals, Value.category]; done) | rfl
def Q_trn0 (Z : State) (a1 : Addr) (aG : Addr) (wL : Addr) (wE : Addr) (cE : Cell) (h0 : Heap) (n0 : Nat) (v : Option Value) (h : Heap) (L : List Loc) : Prop := v = some (.int (0 : Int32)) ∧ Fr n0 L ∧ h = h0
theorem rm_trn0 (l : Launch) (Z : State) (a0 : Array Value) (hw : ∀ d ∈ tables_1, d.before a0 Z = true) (ws : List Jvm.Cond) (a1 : Addr) (aG : Addr) (wL : Addr) (wE : Addr) (cE : Cell) (h0 : Heap) (n0 : Nat) (Z0 : n0 ≤ h0.size) (F_g : Fld Z h0 a1 "com/example/arcrover/arcrover/Exploration" "graph" "Lcom/example/arcrover/arcrover/StateMachine;" (.ref aG)) (E_aG : Exa Z h0 aG "com/example/arcrover/arcrover/StateMachine") (F_t : Fld Z h0 aG "com/example/arcrover/arcrover/StateMachine" "transitions" "Ljava/util/List;" (.ref wL)) (E_b : Exa Z h0 wL "java/util/ImmutableCollections$ListN") (F_e : Fld Z h0 wL "java/util/ImmutableCollections$ListN" "elements" "[Ljava/lang/Object;" (.ref wE)) (A_E : Arr Z h0 wE cE (.object "java/lang/Object")) (S_E : cE.slots.size = (0 : Int32).toNatClampNeg) :
    MetFree l own_y2 (head1 (Jvm.Cond.code own_y2 prog_2_method_2_code 1 (some .int) :: ws) own_r3) (fun a U => a = #[(.ref a1)] ∧ Z.Warmed39 U.vm ∧ U.heap = h0) (fun _ _ _ _ _ => True) (fun _ U o U' => ∃ v L, o = .returned v ∧ Q_trn0 Z a1 aG wL wE cE h0 n0 v U'.heap L ∧ FrameEnd U o U' L own_r3.cells own_r3.slots) := by
  refine MetFree.of_bodySF (plainFor_of_name pn_38) hisR ?_
  intro p e s m args below meth c s₁ Bd hml0 hP hK
  obtain ⟨rfl, hZ, hh⟩ := hP
  have hx := Bd.exec
  have hby := Bd.bytes
  have hml : c.maxLocals = 1 := hml0
  have hown : s.vm.findClass "com/example/arcrover/arcrover/Exploration" = some m.cls := findClass_of_methodNamed Bd.named
  have hnm := (name_of_methodNamed Bd.named Bd.method).1
  have X0 : Stand p l e own_r3 s m #[(.ref a1)] below meth c s₁ [] 0 0 := Stand.of_body Bd
  have e0 : s₁.heap = h0 := by rw [← hh, Bd.state]; rfl
  have N0 := Fr.nil n0
  have pre0 : ∀ t, Steps p.tables e below (s₁.setTop (mkF m 0 #[.val (.ref a1)] [])) t → Steps p.tables e below (s₁.setTop (entryFrame m #[(.ref a1)] 1)) t := fun t k => castTop (ef_38 m a1) k
  obtain ⟨T2, X2, e2, st2⟩ := getF X0 hx hZ hown (host := "") (Or.inl (own_w hw 252 rfl)) Via.refl e0 F_g (g := (mkF m 1 #[.val (.ref a1)] [(.ref a1)])) rfl rfl (hb hby d38_1)
  obtain ⟨cq3, kq3, q3a, q3b, q3c⟩ := isOf hZ e2 E_aG
  obtain ⟨_, _, ⟨T3, L3, k3, n3⟩, -, X3, ⟨Lc3, hQ3, l3, y3, z3⟩, st3⟩ := X2.virtualBack hx (y := own_y10) (z := own_y10) hown (mvT hZ (own_w hw 275 rfl)) (mvT hZ (own_w hw 276 rfl)) (notFace_of_selects (args := #[]) (mvT hZ (own_w hw 278 rfl))) (mvT hZ (own_w hw 278 rfl)) (mvT hZ (own_w hw 277 rfl)) (by decide) (backOf (W := 0) (rm_smt l Z a0 hw [] aG wL h0 n0 Z0 F_t) hZ (own_w hw 279 rfl) (own_w hw 110 rfl) (by decide) (by decide)) q3a q3c (g := (mkF m 4 #[.val (.ref a1)] [(.ref aG)])) rfl (by rw [hml]; rfl) (Steps.refl _) (argsL := []) (rest := []) (lenOf pd_38_18 rfl) rfl (Nat.le_of_eq rfl) (hb hby d38_4) (fun _ _ => ⟨rfl, e2, (by decide : 0 + 0 ≤ _), (by decide : 0 + 0 ≤ _)⟩)
  dsimp only [Pt.U, Pt.locs, Pt.cells, Pt.slots] at X3 l3 y3 z3 st3 hQ3
  subst l3 y3 z3
  obtain ⟨rfl, N3q, K3⟩ := hQ3
  have N3 := Fr.app N0 N3q
  obtain ⟨cq4, kq4, q4a, q4b, q4c⟩ := isOf hZ K3 E_b
  obtain ⟨_, _, ⟨T4, L4, k4, n4⟩, -, X4, ⟨Lc4, hQ4, l4, y4, z4⟩, st4⟩ := X3.interfaceBack hx (xi := own_y34) (y := own_y31) hown (mvT hZ (own_w hw 280 rfl)) (mvT hZ (own_w hw 281 rfl)) (mvT hZ (own_w hw 282 rfl)) (mvT hZ (own_w hw 283 rfl)) (mvT hZ (own_w hw 284 rfl)) (mvT hZ (own_w hw 285 rfl)) (mvT hZ (own_w hw 286 rfl)) (mvT hZ (own_w hw 287 rfl)) (by decide) (backOf (W := 0) (rm_lnsz l Z a0 hw [] wL wE cE (0 : Int32) h0 n0 Z0 F_e A_E S_E (by decide)) hZ (own_w hw 289 rfl) (own_w hw 288 rfl) (by decide) (by decide)) q4a q4b q4c (g := (mkF m 7 #[.val (.ref a1)] [(.ref wL)])) rfl (by rw [hml]; rfl) (Steps.refl _) (argsL := []) (rest := []) (lenOf pd_38_28 rfl) rfl (Nat.le_of_eq rfl) (hb hby d38_7) (fun _ _ => ⟨rfl, K3, (by decide : 0 + 0 ≤ _), (by decide : 0 + 0 ≤ _)⟩)
  dsimp only [Pt.U, Pt.locs, Pt.cells, Pt.slots] at X4 l4 y4 z4 st4 hQ4
  subst l4 y4 z4
  obtain ⟨rfl, N4q, K4⟩ := hQ4
  have N4 := Fr.app N3 N4q
  obtain ⟨fs, hr, hrun, hended, hW, hsame⟩ := X4.leave (v := some (.int (0 : Int32))) (fun h => by rw [Bd.returns] at h; cases h)
  refine ⟨_, _, pre0 _ ?_, hrun, hended, _, _, rfl, ?_, ⟨_, rfl⟩, hW, hsame.mono (by decide) (by decide)⟩
  · show Steps _ _ _ (s₁.setTop (mkF m 0 #[.val (.ref a1)] [])) _
    refine XS.aloadN X0.here hx rfl (hb hby d38_0) rfl rfl ?_
    show Steps _ _ _ (s₁.setTop (mkF m 1 #[.val (.ref a1)] [(.ref a1)])) _
    refine st2 _ ?_
    show Steps _ _ _ (T2.setTop (mkF m 4 #[.val (.ref a1)] [(.ref aG)])) _
    refine st3.trans ?_
    show Steps _ _ _ (T3.setTop (mkF m 7 #[.val (.ref a1)] [(.ref wL)])) _
    refine st4.trans ?_
    show Steps _ _ _ (T4.setTop (mkF m 12 #[.val (.ref a1)] [(.int (0 : Int32))])) _
    exact retI X4 hx Bd.returns (hb hby d38_12) hr
  · show Q_trn0 Z a1 aG wL wE cE h0 n0 _ T4.heap _
    rw [K4]
    exact ⟨rfl, N4, rfl⟩
def Q_trn1 (Z : State) (a1 : Addr) (aG : Addr) (bL : Addr) (wO : Addr) (h0 : Heap) (n0 : Nat) (v : Option Value) (h : Heap) (L : List Loc) : Prop := v = some (.int (1 : Int32)) ∧ Fr n0 L ∧ h = h0
theorem rm_trn1 (l : Launch) (Z : State) (a0 : Array Value) (hw : ∀ d ∈ tables_1, d.before a0 Z = true) (ws : List Jvm.Cond) (a1 : Addr) (aG : Addr) (bL : Addr) (wO : Addr) (h0 : Heap) (n0 : Nat) (Z0 : n0 ≤ h0.size) (F_g : Fld Z h0 a1 "com/example/arcrover/arcrover/Exploration" "graph" "Lcom/example/arcrover/arcrover/StateMachine;" (.ref aG)) (E_aG : Exa Z h0 aG "com/example/arcrover/arcrover/StateMachine") (F_t : Fld Z h0 aG "com/example/arcrover/arcrover/StateMachine" "transitions" "Ljava/util/List;" (.ref bL)) (E_b : Exa Z h0 bL "java/util/ImmutableCollections$List12") (Ol : Old Z n0 h0) (S_EMPTY : Sta Z Z.heap "java/util/ImmutableCollections" "EMPTY" "Ljava/lang/Object;" (.ref wO)) (F_1 : Fld Z h0 bL "java/util/ImmutableCollections$List12" "e1" "Ljava/lang/Object;" (.ref wO)) :
    MetFree l own_y2 (head1 (Jvm.Cond.code own_y2 prog_2_method_2_code 1 (some .int) :: ws) own_r3) (fun a U => a = #[(.ref a1)] ∧ Z.Warmed39 U.vm ∧ U.heap = h0) (fun _ _ _ _ _ => True) (fun _ U o U' => ∃ v L, o = .returned v ∧ Q_trn1 Z a1 aG bL wO h0 n0 v U'.heap L ∧ FrameEnd U o U' L own_r3.cells own_r3.slots) := by
  refine MetFree.of_bodySF (plainFor_of_name pn_38) hisR ?_
  intro p e s m args below meth c s₁ Bd hml0 hP hK
  obtain ⟨rfl, hZ, hh⟩ := hP
  have hx := Bd.exec
  have hby := Bd.bytes
  have hml : c.maxLocals = 1 := hml0
  have hown : s.vm.findClass "com/example/arcrover/arcrover/Exploration" = some m.cls := findClass_of_methodNamed Bd.named
  have hnm := (name_of_methodNamed Bd.named Bd.method).1
  have X0 : Stand p l e own_r3 s m #[(.ref a1)] below meth c s₁ [] 0 0 := Stand.of_body Bd
  have e0 : s₁.heap = h0 := by rw [← hh, Bd.state]; rfl
  have N0 := Fr.nil n0
  have pre0 : ∀ t, Steps p.tables e below (s₁.setTop (mkF m 0 #[.val (.ref a1)] [])) t → Steps p.tables e below (s₁.setTop (entryFrame m #[(.ref a1)] 1)) t := fun t k => castTop (ef_38 m a1) k
  obtain ⟨T2, X2, e2, st2⟩ := getF X0 hx hZ hown (host := "") (Or.inl (own_w hw 252 rfl)) Via.refl e0 F_g (g := (mkF m 1 #[.val (.ref a1)] [(.ref a1)])) rfl rfl (hb hby d38_1)
  obtain ⟨cq3, kq3, q3a, q3b, q3c⟩ := isOf hZ e2 E_aG
  obtain ⟨_, _, ⟨T3, L3, k3, n3⟩, -, X3, ⟨Lc3, hQ3, l3, y3, z3⟩, st3⟩ := X2.virtualBack hx (y := own_y10) (z := own_y10) hown (mvT hZ (own_w hw 275 rfl)) (mvT hZ (own_w hw 276 rfl)) (notFace_of_selects (args := #[]) (mvT hZ (own_w hw 278 rfl))) (mvT hZ (own_w hw 278 rfl)) (mvT hZ (own_w hw 277 rfl)) (by decide) (backOf (W := 0) (rm_smt l Z a0 hw [] aG bL h0 n0 Z0 F_t) hZ (own_w hw 279 rfl) (own_w hw 110 rfl) (by decide) (by decide)) q3a q3c (g := (mkF m 4 #[.val (.ref a1)] [(.ref aG)])) rfl (by rw [hml]; rfl) (Steps.refl _) (argsL := []) (rest := []) (lenOf pd_38_18 rfl) rfl (Nat.le_of_eq rfl) (hb hby d38_4) (fun _ _ => ⟨rfl, e2, (by decide : 0 + 0 ≤ _), (by decide : 0 + 0 ≤ _)⟩)
  dsimp only [Pt.U, Pt.locs, Pt.cells, Pt.slots] at X3 l3 y3 z3 st3 hQ3
  subst l3 y3 z3
  obtain ⟨rfl, N3q, K3⟩ := hQ3
  have N3 := Fr.app N0 N3q
  obtain ⟨cq4, kq4, q4a, q4b, q4c⟩ := isOf hZ K3 E_b
  obtain ⟨_, _, ⟨T4, L4, k4, n4⟩, -, X4, ⟨Lc4, hQ4, l4, y4, z4⟩, st4⟩ := X3.interfaceBack hx (xi := own_y34) (y := own_y24) hown (mvT hZ (own_w hw 280 rfl)) (mvT hZ (own_w hw 281 rfl)) (mvT hZ (own_w hw 282 rfl)) (mvT hZ (own_w hw 335 rfl)) (mvT hZ (own_w hw 336 rfl)) (mvT hZ (own_w hw 337 rfl)) (mvT hZ (own_w hw 338 rfl)) (mvT hZ (own_w hw 339 rfl)) (by decide) (backOf (W := 0) (rm_l12a l Z a0 hw [] bL wO h0 n0 Z0 Ol S_EMPTY F_1) hZ (own_w hw 340 rfl) (own_w hw 225 rfl) (by decide) (by decide)) q4a q4b q4c (g := (mkF m 7 #[.val (.ref a1)] [(.ref bL)])) rfl (by rw [hml]; rfl) (Steps.refl _) (argsL := []) (rest := []) (lenOf pd_38_28 rfl) rfl (Nat.le_of_eq rfl) (hb hby d38_7) (fun _ _ => ⟨rfl, K3, (by decide : 0 + 0 ≤ _), (by decide : 0 + 0 ≤ _)⟩)
  dsimp only [Pt.U, Pt.locs, Pt.cells, Pt.slots] at X4 l4 y4 z4 st4 hQ4
  subst l4 y4 z4
  obtain ⟨rfl, N4q, K4⟩ := hQ4
  have N4 := Fr.app N3 N4q
  obtain ⟨fs, hr, hrun, hended, hW, hsame⟩ := X4.leave (v := some (.int (1 : Int32))) (fun h => by rw [Bd.returns] at h; cases h)
  refine ⟨_, _, pre0 _ ?_, hrun, hended, _, _, rfl, ?_, ⟨_, rfl⟩, hW, hsame.mono (by decide) (by decide)⟩
  · show Steps _ _ _ (s₁.setTop (mkF m 0 #[.val (.ref a1)] [])) _
    refine XS.aloadN X0.here hx rfl (hb hby d38_0) rfl rfl ?_
    show Steps _ _ _ (s₁.setTop (mkF m 1 #[.val (.ref a1)] [(.ref a1)])) _
    refine st2 _ ?_
    show Steps _ _ _ (T2.setTop (mkF m 4 #[.val (.ref a1)] [(.ref aG)])) _
    refine st3.trans ?_
    show Steps _ _ _ (T3.setTop (mkF m 7 #[.val (.ref a1)] [(.ref bL)])) _
    refine st4.trans ?_
    show Steps _ _ _ (T4.setTop (mkF m 12 #[.val (.ref a1)] [(.int (1 : Int32))])) _
    exact retI X4 hx Bd.returns (hb hby d38_12) hr
  · show Q_trn1 Z a1 aG bL wO h0 n0 _ T4.heap _
    rw [K4]
    exact ⟨rfl, N4, rfl⟩
def Q_trn2 (Z : State) (a1 : Addr) (aG : Addr) (bL : Addr) (wO : Addr) (t1 : Addr) (h0 : Heap) (n0 : Nat) (v : Option Value) (h : Heap) (L : List Loc) : Prop := v = some (.int (2 : Int32)) ∧ Fr n0 L ∧ h = h0
theorem rm_trn2 (l : Launch) (Z : State) (a0 : Array Value) (hw : ∀ d ∈ tables_1, d.before a0 Z = true) (ws : List Jvm.Cond) (a1 : Addr) (aG : Addr) (bL : Addr) (wO : Addr) (t1 : Addr) (h0 : Heap) (n0 : Nat) (Z0 : n0 ≤ h0.size) (F_g : Fld Z h0 a1 "com/example/arcrover/arcrover/Exploration" "graph" "Lcom/example/arcrover/arcrover/StateMachine;" (.ref aG)) (E_aG : Exa Z h0 aG "com/example/arcrover/arcrover/StateMachine") (F_t : Fld Z h0 aG "com/example/arcrover/arcrover/StateMachine" "transitions" "Ljava/util/List;" (.ref bL)) (E_b : Exa Z h0 bL "java/util/ImmutableCollections$List12") (Ol : Old Z n0 h0) (S_EMPTY : Sta Z Z.heap "java/util/ImmutableCollections" "EMPTY" "Ljava/lang/Object;" (.ref wO)) (F_1 : Fld Z h0 bL "java/util/ImmutableCollections$List12" "e1" "Ljava/lang/Object;" (.ref t1)) (hne : ¬ (t1 = wO)) :
    MetFree l own_y2 (head1 (Jvm.Cond.code own_y2 prog_2_method_2_code 1 (some .int) :: ws) own_r3) (fun a U => a = #[(.ref a1)] ∧ Z.Warmed39 U.vm ∧ U.heap = h0) (fun _ _ _ _ _ => True) (fun _ U o U' => ∃ v L, o = .returned v ∧ Q_trn2 Z a1 aG bL wO t1 h0 n0 v U'.heap L ∧ FrameEnd U o U' L own_r3.cells own_r3.slots) := by
  refine MetFree.of_bodySF (plainFor_of_name pn_38) hisR ?_
  intro p e s m args below meth c s₁ Bd hml0 hP hK
  obtain ⟨rfl, hZ, hh⟩ := hP
  have hx := Bd.exec
  have hby := Bd.bytes
  have hml : c.maxLocals = 1 := hml0
  have hown : s.vm.findClass "com/example/arcrover/arcrover/Exploration" = some m.cls := findClass_of_methodNamed Bd.named
  have hnm := (name_of_methodNamed Bd.named Bd.method).1
  have X0 : Stand p l e own_r3 s m #[(.ref a1)] below meth c s₁ [] 0 0 := Stand.of_body Bd
  have e0 : s₁.heap = h0 := by rw [← hh, Bd.state]; rfl
  have N0 := Fr.nil n0
  have pre0 : ∀ t, Steps p.tables e below (s₁.setTop (mkF m 0 #[.val (.ref a1)] [])) t → Steps p.tables e below (s₁.setTop (entryFrame m #[(.ref a1)] 1)) t := fun t k => castTop (ef_38 m a1) k
  obtain ⟨T2, X2, e2, st2⟩ := getF X0 hx hZ hown (host := "") (Or.inl (own_w hw 252 rfl)) Via.refl e0 F_g (g := (mkF m 1 #[.val (.ref a1)] [(.ref a1)])) rfl rfl (hb hby d38_1)
  obtain ⟨cq3, kq3, q3a, q3b, q3c⟩ := isOf hZ e2 E_aG
  obtain ⟨_, _, ⟨T3, L3, k3, n3⟩, -, X3, ⟨Lc3, hQ3, l3, y3, z3⟩, st3⟩ := X2.virtualBack hx (y := own_y10) (z := own_y10) hown (mvT hZ (own_w hw 275 rfl)) (mvT hZ (own_w hw 276 rfl)) (notFace_of_selects (args := #[]) (mvT hZ (own_w hw 278 rfl))) (mvT hZ (own_w hw 278 rfl)) (mvT hZ (own_w hw 277 rfl)) (by decide) (backOf (W := 0) (rm_smt l Z a0 hw [] aG bL h0 n0 Z0 F_t) hZ (own_w hw 279 rfl) (own_w hw 110 rfl) (by decide) (by decide)) q3a q3c (g := (mkF m 4 #[.val (.ref a1)] [(.ref aG)])) rfl (by rw [hml]; rfl) (Steps.refl _) (argsL := []) (rest := []) (lenOf pd_38_18 rfl) rfl (Nat.le_of_eq rfl) (hb hby d38_4) (fun _ _ => ⟨rfl, e2, (by decide : 0 + 0 ≤ _), (by decide : 0 + 0 ≤ _)⟩)
  dsimp only [Pt.U, Pt.locs, Pt.cells, Pt.slots] at X3 l3 y3 z3 st3 hQ3
  subst l3 y3 z3
  obtain ⟨rfl, N3q, K3⟩ := hQ3
  have N3 := Fr.app N0 N3q
  obtain ⟨cq4, kq4, q4a, q4b, q4c⟩ := isOf hZ K3 E_b
  obtain ⟨_, _, ⟨T4, L4, k4, n4⟩, -, X4, ⟨Lc4, hQ4, l4, y4, z4⟩, st4⟩ := X3.interfaceBack hx (xi := own_y34) (y := own_y24) hown (mvT hZ (own_w hw 280 rfl)) (mvT hZ (own_w hw 281 rfl)) (mvT hZ (own_w hw 282 rfl)) (mvT hZ (own_w hw 335 rfl)) (mvT hZ (own_w hw 336 rfl)) (mvT hZ (own_w hw 337 rfl)) (mvT hZ (own_w hw 338 rfl)) (mvT hZ (own_w hw 339 rfl)) (by decide) (backOf (W := 0) (rm_l12b l Z a0 hw [] bL wO t1 h0 n0 Z0 Ol S_EMPTY F_1 hne) hZ (own_w hw 340 rfl) (own_w hw 225 rfl) (by decide) (by decide)) q4a q4b q4c (g := (mkF m 7 #[.val (.ref a1)] [(.ref bL)])) rfl (by rw [hml]; rfl) (Steps.refl _) (argsL := []) (rest := []) (lenOf pd_38_28 rfl) rfl (Nat.le_of_eq rfl) (hb hby d38_7) (fun _ _ => ⟨rfl, K3, (by decide : 0 + 0 ≤ _), (by decide : 0 + 0 ≤ _)⟩)
  dsimp only [Pt.U, Pt.locs, Pt.cells, Pt.slots] at X4 l4 y4 z4 st4 hQ4
  subst l4 y4 z4
  obtain ⟨rfl, N4q, K4⟩ := hQ4
  have N4 := Fr.app N3 N4q
  obtain ⟨fs, hr, hrun, hended, hW, hsame⟩ := X4.leave (v := some (.int (2 : Int32))) (fun h => by rw [Bd.returns] at h; cases h)
  refine ⟨_, _, pre0 _ ?_, hrun, hended, _, _, rfl, ?_, ⟨_, rfl⟩, hW, hsame.mono (by decide) (by decide)⟩
  · show Steps _ _ _ (s₁.setTop (mkF m 0 #[.val (.ref a1)] [])) _
    refine XS.aloadN X0.here hx rfl (hb hby d38_0) rfl rfl ?_
    show Steps _ _ _ (s₁.setTop (mkF m 1 #[.val (.ref a1)] [(.ref a1)])) _
    refine st2 _ ?_
    show Steps _ _ _ (T2.setTop (mkF m 4 #[.val (.ref a1)] [(.ref aG)])) _
    refine st3.trans ?_
    show Steps _ _ _ (T3.setTop (mkF m 7 #[.val (.ref a1)] [(.ref bL)])) _
    refine st4.trans ?_
    show Steps _ _ _ (T4.setTop (mkF m 12 #[.val (.ref a1)] [(.int (2 : Int32))])) _
    exact retI X4 hx Bd.returns (hb hby d38_12) hr
  · show Q_trn2 Z a1 aG bL wO t1 h0 n0 _ T4.heap _
    rw [K4]
    exact ⟨rfl, N4, rfl⟩
def Q_trn3 (Z : State) (a1 : Addr) (aG : Addr) (bL : Addr) (wE : Addr) (cE : Cell) (h0 : Heap) (n0 : Nat) (v : Option Value) (h : Heap) (L : List Loc) : Prop := v = some (.int (3 : Int32)) ∧ Fr n0 L ∧ h = h0
theorem rm_trn3 (l : Launch) (Z : State) (a0 : Array Value) (hw : ∀ d ∈ tables_1, d.before a0 Z = true) (ws : List Jvm.Cond) (a1 : Addr) (aG : Addr) (bL : Addr) (wE : Addr) (cE : Cell) (h0 : Heap) (n0 : Nat) (Z0 : n0 ≤ h0.size) (F_g : Fld Z h0 a1 "com/example/arcrover/arcrover/Exploration" "graph" "Lcom/example/arcrover/arcrover/StateMachine;" (.ref aG)) (E_aG : Exa Z h0 aG "com/example/arcrover/arcrover/StateMachine") (F_t : Fld Z h0 aG "com/example/arcrover/arcrover/StateMachine" "transitions" "Ljava/util/List;" (.ref bL)) (E_b : Exa Z h0 bL "java/util/ImmutableCollections$ListN") (F_e : Fld Z h0 bL "java/util/ImmutableCollections$ListN" "elements" "[Ljava/lang/Object;" (.ref wE)) (A_E : Arr Z h0 wE cE (.object "java/lang/Object")) (S_E : cE.slots.size = (3 : Int32).toNatClampNeg) :
    MetFree l own_y2 (head1 (Jvm.Cond.code own_y2 prog_2_method_2_code 1 (some .int) :: ws) own_r3) (fun a U => a = #[(.ref a1)] ∧ Z.Warmed39 U.vm ∧ U.heap = h0) (fun _ _ _ _ _ => True) (fun _ U o U' => ∃ v L, o = .returned v ∧ Q_trn3 Z a1 aG bL wE cE h0 n0 v U'.heap L ∧ FrameEnd U o U' L own_r3.cells own_r3.slots) := by
  refine MetFree.of_bodySF (plainFor_of_name pn_38) hisR ?_
  intro p e s m args below meth c s₁ Bd hml0 hP hK
  obtain ⟨rfl, hZ, hh⟩ := hP
  have hx := Bd.exec
  have hby := Bd.bytes
  have hml : c.maxLocals = 1 := hml0
  have hown : s.vm.findClass "com/example/arcrover/arcrover/Exploration" = some m.cls := findClass_of_methodNamed Bd.named
  have hnm := (name_of_methodNamed Bd.named Bd.method).1
  have X0 : Stand p l e own_r3 s m #[(.ref a1)] below meth c s₁ [] 0 0 := Stand.of_body Bd
  have e0 : s₁.heap = h0 := by rw [← hh, Bd.state]; rfl
  have N0 := Fr.nil n0
  have pre0 : ∀ t, Steps p.tables e below (s₁.setTop (mkF m 0 #[.val (.ref a1)] [])) t → Steps p.tables e below (s₁.setTop (entryFrame m #[(.ref a1)] 1)) t := fun t k => castTop (ef_38 m a1) k
  obtain ⟨T2, X2, e2, st2⟩ := getF X0 hx hZ hown (host := "") (Or.inl (own_w hw 252 rfl)) Via.refl e0 F_g (g := (mkF m 1 #[.val (.ref a1)] [(.ref a1)])) rfl rfl (hb hby d38_1)
  obtain ⟨cq3, kq3, q3a, q3b, q3c⟩ := isOf hZ e2 E_aG
  obtain ⟨_, _, ⟨T3, L3, k3, n3⟩, -, X3, ⟨Lc3, hQ3, l3, y3, z3⟩, st3⟩ := X2.virtualBack hx (y := own_y10) (z := own_y10) hown (mvT hZ (own_w hw 275 rfl)) (mvT hZ (own_w hw 276 rfl)) (notFace_of_selects (args := #[]) (mvT hZ (own_w hw 278 rfl))) (mvT hZ (own_w hw 278 rfl)) (mvT hZ (own_w hw 277 rfl)) (by decide) (backOf (W := 0) (rm_smt l Z a0 hw [] aG bL h0 n0 Z0 F_t) hZ (own_w hw 279 rfl) (own_w hw 110 rfl) (by decide) (by decide)) q3a q3c (g := (mkF m 4 #[.val (.ref a1)] [(.ref aG)])) rfl (by rw [hml]; rfl) (Steps.refl _) (argsL := []) (rest := []) (lenOf pd_38_18 rfl) rfl (Nat.le_of_eq rfl) (hb hby d38_4) (fun _ _ => ⟨rfl, e2, (by decide : 0 + 0 ≤ _), (by decide : 0 + 0 ≤ _)⟩)
  dsimp only [Pt.U, Pt.locs, Pt.cells, Pt.slots] at X3 l3 y3 z3 st3 hQ3
  subst l3 y3 z3
  obtain ⟨rfl, N3q, K3⟩ := hQ3
  have N3 := Fr.app N0 N3q
  obtain ⟨cq4, kq4, q4a, q4b, q4c⟩ := isOf hZ K3 E_b
  obtain ⟨_, _, ⟨T4, L4, k4, n4⟩, -, X4, ⟨Lc4, hQ4, l4, y4, z4⟩, st4⟩ := X3.interfaceBack hx (xi := own_y34) (y := own_y31) hown (mvT hZ (own_w hw 280 rfl)) (mvT hZ (own_w hw 281 rfl)) (mvT hZ (own_w hw 282 rfl)) (mvT hZ (own_w hw 283 rfl)) (mvT hZ (own_w hw 284 rfl)) (mvT hZ (own_w hw 285 rfl)) (mvT hZ (own_w hw 286 rfl)) (mvT hZ (own_w hw 287 rfl)) (by decide) (backOf (W := 0) (rm_lnsz l Z a0 hw [] bL wE cE (3 : Int32) h0 n0 Z0 F_e A_E S_E (by decide)) hZ (own_w hw 289 rfl) (own_w hw 288 rfl) (by decide) (by decide)) q4a q4b q4c (g := (mkF m 7 #[.val (.ref a1)] [(.ref bL)])) rfl (by rw [hml]; rfl) (Steps.refl _) (argsL := []) (rest := []) (lenOf pd_38_28 rfl) rfl (Nat.le_of_eq rfl) (hb hby d38_7) (fun _ _ => ⟨rfl, K3, (by decide : 0 + 0 ≤ _), (by decide : 0 + 0 ≤ _)⟩)
  dsimp only [Pt.U, Pt.locs, Pt.cells, Pt.slots] at X4 l4 y4 z4 st4 hQ4
  subst l4 y4 z4
  obtain ⟨rfl, N4q, K4⟩ := hQ4
  have N4 := Fr.app N3 N4q
  obtain ⟨fs, hr, hrun, hended, hW, hsame⟩ := X4.leave (v := some (.int (3 : Int32))) (fun h => by rw [Bd.returns] at h; cases h)
  refine ⟨_, _, pre0 _ ?_, hrun, hended, _, _, rfl, ?_, ⟨_, rfl⟩, hW, hsame.mono (by decide) (by decide)⟩
  · show Steps _ _ _ (s₁.setTop (mkF m 0 #[.val (.ref a1)] [])) _
    refine XS.aloadN X0.here hx rfl (hb hby d38_0) rfl rfl ?_
    show Steps _ _ _ (s₁.setTop (mkF m 1 #[.val (.ref a1)] [(.ref a1)])) _
    refine st2 _ ?_
    show Steps _ _ _ (T2.setTop (mkF m 4 #[.val (.ref a1)] [(.ref aG)])) _
    refine st3.trans ?_
    show Steps _ _ _ (T3.setTop (mkF m 7 #[.val (.ref a1)] [(.ref bL)])) _
    refine st4.trans ?_
    show Steps _ _ _ (T4.setTop (mkF m 12 #[.val (.ref a1)] [(.int (3 : Int32))])) _
    exact retI X4 hx Bd.returns (hb hby d38_12) hr
  · show Q_trn3 Z a1 aG bL wE cE h0 n0 _ T4.heap _
    rw [K4]
    exact ⟨rfl, N4, rfl⟩
theorem own_c255 (x : Int32) : ¬ ((255 : Int32) < ((x &&& (255 : Int32)).toUInt32.toUInt16.toUInt32.toInt32)) := by
  rw [Int32.lt_iff_toInt_lt]
  have e : ((x &&& (255 : Int32)).toUInt32.toUInt16.toUInt32.toInt32).toBitVec = ((x.toBitVec &&& 255#32).setWidth 16).setWidth 32 := rfl
  have h1 : (((x.toBitVec &&& 255#32).setWidth 16).setWidth 32).toNat ≤ 255 := by
    rw [BitVec.toNat_setWidth, BitVec.toNat_setWidth, BitVec.toNat_and]
    have h2 : x.toBitVec.toNat &&& (255#32).toNat ≤ 255 := Nat.and_le_right
    omega
  have h3 : ((x &&& (255 : Int32)).toUInt32.toUInt16.toUInt32.toInt32).toInt = ((((x.toBitVec &&& 255#32).setWidth 16).setWidth 32).toNat : Int) := by
    show (_ : BitVec 32).toInt = _
    rw [e, BitVec.toInt_eq_toNat_of_lt (by omega)]
  have h4 : (255 : Int32).toInt = 255 := by decide
  omega
end Jvm.Pilot.@@N@@
namespace Jvm.RoadKit
open Sem ClassFile Op Lib Jvm.Stand Jvm.Free Jvm.LawKit
theorem Arr.keep {Z : State} {h h' : Heap} {a : Addr} {c : Cell} {ty : FieldType} {ws : List Addr} (A : Arr Z h a c ty) (K : Keep h h' ws) (q : a ∉ ws) : Arr Z h' a c ty := ⟨K.2.1 a c A.1 q, A.2⟩
end Jvm.RoadKit
namespace Jvm.Pilot.@@N@@
open Jvm Jvm.ClassFile Sem Op Lib Jvm.Free Jvm.Stand Jvm.LawKit Jvm.RoadKit Bundle Jvm.Pilot.@@N@@.Jvm.D
def Q_lv (Z : State) (h0 : Heap) (n0 : Nat) (v : Option Value) (h : Heap) (L : List Loc) : Prop := ∃ b, v = some (.ref b) ∧ Fr n0 L ∧ Ext h0 h ∧ Exa Z h b "java/lang/Long"
theorem pn_0 : plainName "com/example/arcrover/arcrover/ExplorationTransitionsPinLaw" = true := by first | (simp [plainName, overriddenIn]; done) | decide +kernel
theorem pd_0_0 : parseMethodDescriptor "(C)Ljava/lang/String;" = some ⟨[.char], some (.object "java/lang/String")⟩ := by decide +kernel
theorem pd_0_4 : parseMethodDescriptor "()V" = some ⟨[], none⟩ := by decide +kernel
theorem pd_0_5 : parseMethodDescriptor "(J)Ljava/lang/Long;" = some ⟨[.long], some (.object "java/lang/Long")⟩ := by decide +kernel
theorem pd_0_7 : parseMethodDescriptor "(Ljava/lang/Object;)Z" = some ⟨[(.object "java/lang/Object")], some .boolean⟩ := by decide +kernel
theorem pd_0_12 : parseMethodDescriptor "(Ljava/lang/String;Ljava/util/List;)V" = some ⟨[(.object "java/lang/String"), (.object "java/util/List")], none⟩ := by decide +kernel
theorem pd_0_20 : parseMethodDescriptor "(Lcom/example/arcrover/arcrover/StateMachine;IIJJLjava/util/List;Lcom/example/arcrover/arcrover/Verdict;Lcom/example/arcrover/arcrover/Witness;Ljava/util/List;)V" = some ⟨[(.object "com/example/arcrover/arcrover/StateMachine"), .int, .int, .long, .long, (.object "java/util/List"), (.object "com/example/arcrover/arcrover/Verdict"), (.object "com/example/arcrover/arcrover/Witness"), (.object "java/util/List")], none⟩ := by decide +kernel
theorem pd_0_28 : parseMethodDescriptor "()I" = some ⟨[], some .int⟩ := by decide +kernel
theorem ef_0 (m : MethodId) (x0 : Int32) (x1 : Int32) (x2 : Int32) (x3 : Int32) (x4 : Int64) (x5 : Int64) : entryFrame m #[(.int x0), (.int x1), (.int x2), (.int x3), (.long x4), (.long x5)] maxLocals = mkF m 0 #[.val (.int x0), .val (.int x1), .val (.int x2), .val (.int x3), .val (.long x4), .second, .val (.long x5), .second, .unset, .unset, .unset, .unset, .unset, .unset, .unset, .unset, .unset] [] := by first | (simp [entryFrame, mkF, argsToLocals, Value.category, maxLocals]; done) | rfl
def Q_law0 (Z : State) (p1 : Int32) (p2 : Int32) (p3 : Int32) (p4 : Int32) (q5 : Int64) (q6 : Int64) (cs : Int32) (wD : Addr) (wM : Addr) (wL : Addr) (wE0 : Addr) (wO : Addr) (aM : Addr) (cD : Cell) (cE0 : Cell) (h0 : Heap) (n0 : Nat) (v : Option Value) (h : Heap) (L : List Loc) : Prop := v = some (.int (1 : Int32)) ∧ Fr n0 L
theorem rm_law0 (l : Launch) (Z : State) (a0 : Array Value) (hw : ∀ d ∈ tables_1, d.before a0 Z = true) (ws : List Jvm.Cond) (p1 : Int32) (p2 : Int32) (p3 : Int32) (p4 : Int32) (q5 : Int64) (q6 : Int64) (cs : Int32) (wD : Addr) (wM : Addr) (wL : Addr) (wE0 : Addr) (wO : Addr) (aM : Addr) (cD : Cell) (cE0 : Cell) (h0 : Heap) (n0 : Nat) (Z0 : n0 ≤ h0.size) (Ol : Old Z n0 h0) (S_CS : Sta Z Z.heap "java/lang/String" "COMPACT_STRINGS" "Z" (.int cs)) (hcs : ¬ (cs = (0 : Int32))) (S_DC : Sta Z Z.heap "java/util/ArrayList" "DEFAULTCAPACITY_EMPTY_ELEMENTDATA" "[Ljava/lang/Object;" (.ref wD)) (A_D : Arr Z Z.heap wD cD (.object "java/lang/Object")) (hszD : cD.slots.size = (0 : Int32).toNatClampNeg) (S_EMPTY_MAP : Sta Z Z.heap "java/util/ImmutableCollections" "EMPTY_MAP" "Ljava/util/ImmutableCollections$MapN;" (.ref wM)) (E_M : Exa Z Z.heap wM "java/util/ImmutableCollections$MapN") (F_M : Fld Z Z.heap wM "java/util/ImmutableCollections$MapN" "size" "I" (.int (0 : Int32))) (S_EMPTY_LIST : Sta Z Z.heap "java/util/ImmutableCollections" "EMPTY_LIST" "Ljava/util/ImmutableCollections$ListN;" (.ref wL)) (E_L : Exa Z Z.heap wL "java/util/ImmutableCollections$ListN") (F_L : Fld Z Z.heap wL "java/util/ImmutableCollections$ListN" "elements" "[Ljava/lang/Object;" (.ref wE0)) (A_L : Arr Z Z.heap wE0 cE0 (.object "java/lang/Object")) (hszL : cE0.slots.size = (0 : Int32).toNatClampNeg) (S_EMPTY : Sta Z Z.heap "java/util/ImmutableCollections" "EMPTY" "Ljava/lang/Object;" (.ref wO)) (E_O : Exa Z Z.heap wO "java/lang/Object") (Mr : own_mir Z "[Ljava/lang/Object;" aM) (HL : ∀ (h0 : Heap), n0 ≤ h0.size → Old Z n0 h0 → MetFree l own_y1 (head1 (Jvm.Cond.code own_y1 jdk_35_method_24_code 3 (some (.object "java/lang/Long")) :: []) own_r1) (fun a U => a = #[(.long q5)] ∧ Z.Warmed39 U.vm ∧ U.heap = h0) (fun _ _ _ _ _ => True) (fun _ U o U' => ∃ v L, o = .returned v ∧ Q_lv Z h0 n0 v U'.heap L ∧ FrameEnd  U o U' L own_r1.cells own_r1.slots)) (hc82 : ¬ ((0 : Int32) < (p1 &&& (3 : Int32)))) (hc111 : ¬ ((1 : Int32) < (p1 &&& (3 : Int32)))) (hc140 : ¬ ((2 : Int32) < (p1 &&& (3 : Int32)))) (hc232 : (0 : Int32) = (p1 &&& (3 : Int32))) :
    MetFree l x (head1 (Jvm.Cond.code x code maxLocals ret :: ws) room_1) (fun a U => a = #[(.int p1), (.int p2), (.int p3), (.int p4), (.long q5), (.long q6)] ∧ Z.Warmed39 U.vm ∧ U.heap = h0) (fun _ _ _ _ _ => True) (fun _ U o U' => ∃ v L, o = .returned v ∧ Q_law0 Z p1 p2 p3 p4 q5 q6 cs wD wM wL wE0 wO aM cD cE0 h0 n0 v U'.heap L ∧ ReturnedEndW U o U' L room_1.cells room_1.slots) := by
  refine MetFree.of_bodySF (plainFor_of_name pn_0) hisR ?_
  intro p e s m args below meth c s₁ Bd hml0 hP hK
  obtain ⟨rfl, hZ, hh⟩ := hP
  have hx := Bd.exec
  have hby := Bd.bytes
  have hml : c.maxLocals = 17 := hml0
  have hown : s.vm.findClass "com/example/arcrover/arcrover/ExplorationTransitionsPinLaw" = some m.cls := findClass_of_methodNamed Bd.named
  have hnm := (name_of_methodNamed Bd.named Bd.method).1
  have X0 : Stand p l e room_1 (s.setVm s.vm) m #[(.int p1), (.int p2), (.int p3), (.int p4), (.long q5), (.long q6)] below meth c s₁ [] 0 0 := Stand.of_body Bd
  have hS : s.Since s.vm s.heap.size := (State.WarmedH.refl s).since s.heap.size
  have hk : s.heap.size ≤ h0.size := Nat.le_of_eq (congrArg Array.size hh)
  have e0 : s₁.heap = h0 := by rw [← hh, Bd.state]; rfl
  have N0 := Fr.nil n0
  have pre0 : ∀ t, Steps p.tables e below (s₁.setTop (mkF m 0 (own_P p1 p2 p3 p4 q5 q6 .unset .unset .unset .unset .unset .unset .unset .unset .unset) [])) t → Steps p.tables e below (s₁.setTop (entryFrame m #[(.int p1), (.int p2), (.int p3), (.int p4), (.long q5), (.long q6)] maxLocals)) t := fun t k => castTop (ef_0 m p1 p2 p3 p4 q5 q6) k
  obtain ⟨_, _, ⟨T7, L7, k7, n7⟩, -, X7, ⟨Lc7, hQ7, l7, y7, z7⟩, st7⟩ := Jvm.LawKit.callS X0 hx (y := own_y0) hown (mvT hZ (own_w hw 0 rfl)) (mvT hZ (own_w hw 1 rfl)) (mvT hZ (own_w hw 2 rfl)) (mvT hZ (own_w hw 3 rfl)) (by decide) (backOf (W := 0) (rm_vof l Z a0 hw [] ((((p1.toUInt32 >>> ((2 : Int32) &&& 31).toUInt32).toInt32) &&& (255 : Int32)).toUInt32.toUInt16.toUInt32.toInt32) cs h0 n0 Z0 Ol S_CS (own_c255 _) hcs) hZ (own_w hw 3 rfl) (own_w hw 2 rfl) (by decide) (by decide)) (g := (mkF m 13 (own_P p1 p2 p3 p4 q5 q6 (.val (.int (p1 &&& (3 : Int32)))) .unset .unset .unset .unset .unset .unset .unset .unset) [(.int ((((p1.toUInt32 >>> ((2 : Int32) &&& 31).toUInt32).toInt32) &&& (255 : Int32)).toUInt32.toUInt16.toUInt32.toInt32))])) rfl (by rw [hml]; rfl) (argsL := [(.int ((((p1.toUInt32 >>> ((2 : Int32) &&& 31).toUInt32).toInt32) &&& (255 : Int32)).toUInt32.toUInt16.toUInt32.toInt32))]) (rest := []) (lenOf pd_0_0 rfl) rfl (Nat.le_of_eq rfl) (hb hby at_13) (fun _ _ => ⟨rfl, e0, (by decide : 0 + 2 ≤ _), (by decide : 0 + 5 ≤ _)⟩)
  dsimp only [Pt.U, Pt.locs, Pt.cells, Pt.slots] at X7 l7 y7 z7 st7 hQ7
  subst l7 y7 z7
  obtain ⟨sI, rfl, N7q, Ex7⟩ := hQ7
  have N7 := Fr.app N0 N7q
  have Kc7 : Keep h0 T7.heap [] := (Keep.refl h0 []).ext Ex7
  have Ol := (Ol.ext Ex7)
  have Z0 : n0 ≤ _ := (Nat.le_trans Z0 Ex7.1)
  obtain ⟨_, _, ⟨T8, L8, k8, n8⟩, -, X8, ⟨Lc8, hQ8, l8, y8, z8⟩, st8⟩ := Jvm.LawKit.callS X7 hx (y := own_y0) hown (mvT hZ (own_w hw 0 rfl)) (mvT hZ (own_w hw 1 rfl)) (mvT hZ (own_w hw 2 rfl)) (mvT hZ (own_w hw 3 rfl)) (by decide) (backOf (W := 0) (rm_vof l Z a0 hw [] ((p2 &&& (255 : Int32)).toUInt32.toUInt16.toUInt32.toInt32) cs T7.heap n0 Z0 Ol S_CS (own_c255 _) hcs) hZ (own_w hw 3 rfl) (own_w hw 2 rfl) (by decide) (by decide)) (g := (mkF m 24 (own_P p1 p2 p3 p4 q5 q6 (.val (.int (p1 &&& (3 : Int32)))) (.val (.ref sI)) .unset .unset .unset .unset .unset .unset .unset) [(.int ((p2 &&& (255 : Int32)).toUInt32.toUInt16.toUInt32.toInt32))])) rfl (by rw [hml]; rfl) (argsL := [(.int ((p2 &&& (255 : Int32)).toUInt32.toUInt16.toUInt32.toInt32))]) (rest := []) (lenOf pd_0_0 rfl) rfl (Nat.le_of_eq rfl) (hb hby at_24) (fun _ _ => ⟨rfl, rfl, (by decide : 2 + 2 ≤ _), (by decide : 5 + 5 ≤ _)⟩)
  dsimp only [Pt.U, Pt.locs, Pt.cells, Pt.slots] at X8 l8 y8 z8 st8 hQ8
  subst l8 y8 z8
  obtain ⟨s0, rfl, N8q, Ex8⟩ := hQ8
  have N8 := Fr.app N7 N8q
  have Kc8 : Keep h0 T8.heap [] := Kc7.ext Ex8
  have Ol := (Ol.ext Ex8)
  have Z0 : n0 ≤ _ := (Nat.le_trans Z0 Ex8.1)
  obtain ⟨_, _, ⟨T9, L9, k9, n9⟩, -, X9, ⟨Lc9, hQ9, l9, y9, z9⟩, st9⟩ := Jvm.LawKit.callS X8 hx (y := own_y0) hown (mvT hZ (own_w hw 0 rfl)) (mvT hZ (own_w hw 1 rfl)) (mvT hZ (own_w hw 2 rfl)) (mvT hZ (own_w hw 3 rfl)) (by decide) (backOf (W := 0) (rm_vof l Z a0 hw [] ((((p2.toUInt32 >>> ((8 : Int32) &&& 31).toUInt32).toInt32) &&& (255 : Int32)).toUInt32.toUInt16.toUInt32.toInt32) cs T8.heap n0 Z0 Ol S_CS (own_c255 _) hcs) hZ (own_w hw 3 rfl) (own_w hw 2 rfl) (by decide) (by decide)) (g := (mkF m 38 (own_P p1 p2 p3 p4 q5 q6 (.val (.int (p1 &&& (3 : Int32)))) (.val (.ref sI)) (.val (.ref s0)) .unset .unset .unset .unset .unset .unset) [(.int ((((p2.toUInt32 >>> ((8 : Int32) &&& 31).toUInt32).toInt32) &&& (255 : Int32)).toUInt32.toUInt16.toUInt32.toInt32))])) rfl (by rw [hml]; rfl) (argsL := [(.int ((((p2.toUInt32 >>> ((8 : Int32) &&& 31).toUInt32).toInt32) &&& (255 : Int32)).toUInt32.toUInt16.toUInt32.toInt32))]) (rest := []) (lenOf pd_0_0 rfl) rfl (Nat.le_of_eq rfl) (hb hby at_38) (fun _ _ => ⟨rfl, rfl, (by decide : 4 + 2 ≤ _), (by decide : 10 + 5 ≤ _)⟩)
  dsimp only [Pt.U, Pt.locs, Pt.cells, Pt.slots] at X9 l9 y9 z9 st9 hQ9
  subst l9 y9 z9
  obtain ⟨s1, rfl, N9q, Ex9⟩ := hQ9
  have N9 := Fr.app N8 N9q
  have Kc9 : Keep h0 T9.heap [] := Kc8.ext Ex9
  have Ol := (Ol.ext Ex9)
  have Z0 : n0 ≤ _ := (Nat.le_trans Z0 Ex9.1)
  obtain ⟨_, _, ⟨T10, L10, k10, n10⟩, -, X10, ⟨Lc10, hQ10, l10, y10, z10⟩, st10⟩ := Jvm.LawKit.callS X9 hx (y := own_y0) hown (mvT hZ (own_w hw 0 rfl)) (mvT hZ (own_w hw 1 rfl)) (mvT hZ (own_w hw 2 rfl)) (mvT hZ (own_w hw 3 rfl)) (by decide) (backOf (W := 0) (rm_vof l Z a0 hw [] ((((p2.toUInt32 >>> ((16 : Int32) &&& 31).toUInt32).toInt32) &&& (255 : Int32)).toUInt32.toUInt16.toUInt32.toInt32) cs T9.heap n0 Z0 Ol S_CS (own_c255 _) hcs) hZ (own_w hw 3 rfl) (own_w hw 2 rfl) (by decide) (by decide)) (g := (mkF m 52 (own_P p1 p2 p3 p4 q5 q6 (.val (.int (p1 &&& (3 : Int32)))) (.val (.ref sI)) (.val (.ref s0)) (.val (.ref s1)) .unset .unset .unset .unset .unset) [(.int ((((p2.toUInt32 >>> ((16 : Int32) &&& 31).toUInt32).toInt32) &&& (255 : Int32)).toUInt32.toUInt16.toUInt32.toInt32))])) rfl (by rw [hml]; rfl) (argsL := [(.int ((((p2.toUInt32 >>> ((16 : Int32) &&& 31).toUInt32).toInt32) &&& (255 : Int32)).toUInt32.toUInt16.toUInt32.toInt32))]) (rest := []) (lenOf pd_0_0 rfl) rfl (Nat.le_of_eq rfl) (hb hby at_52) (fun _ _ => ⟨rfl, rfl, (by decide : 6 + 2 ≤ _), (by decide : 15 + 5 ≤ _)⟩)
  dsimp only [Pt.U, Pt.locs, Pt.cells, Pt.slots] at X10 l10 y10 z10 st10 hQ10
  subst l10 y10 z10
  obtain ⟨s2, rfl, N10q, Ex10⟩ := hQ10
  have N10 := Fr.app N9 N10q
  have Kc10 : Keep h0 T10.heap [] := Kc9.ext Ex10
  have Ol := (Ol.ext Ex10)
  have Z0 : n0 ≤ _ := (Nat.le_trans Z0 Ex10.1)
  obtain ⟨_, _, ⟨T11, L11, k11, n11⟩, -, X11, ⟨Lc11, hQ11, l11, y11, z11⟩, st11⟩ := Jvm.LawKit.callS X10 hx (y := own_y0) hown (mvT hZ (own_w hw 0 rfl)) (mvT hZ (own_w hw 1 rfl)) (mvT hZ (own_w hw 2 rfl)) (mvT hZ (own_w hw 3 rfl)) (by decide) (backOf (W := 0) (rm_vof l Z a0 hw [] ((((p2.toUInt32 >>> ((24 : Int32) &&& 31).toUInt32).toInt32) &&& (255 : Int32)).toUInt32.toUInt16.toUInt32.toInt32) cs T10.heap n0 Z0 Ol S_CS (own_c255 _) hcs) hZ (own_w hw 3 rfl) (own_w hw 2 rfl) (by decide) (by decide)) (g := (mkF m 66 (own_P p1 p2 p3 p4 q5 q6 (.val (.int (p1 &&& (3 : Int32)))) (.val (.ref sI)) (.val (.ref s0)) (.val (.ref s1)) (.val (.ref s2)) .unset .unset .unset .unset) [(.int ((((p2.toUInt32 >>> ((24 : Int32) &&& 31).toUInt32).toInt32) &&& (255 : Int32)).toUInt32.toUInt16.toUInt32.toInt32))])) rfl (by rw [hml]; rfl) (argsL := [(.int ((((p2.toUInt32 >>> ((24 : Int32) &&& 31).toUInt32).toInt32) &&& (255 : Int32)).toUInt32.toUInt16.toUInt32.toInt32))]) (rest := []) (lenOf pd_0_0 rfl) rfl (Nat.le_of_eq rfl) (hb hby at_66) (fun _ _ => ⟨rfl, rfl, (by decide : 8 + 2 ≤ _), (by decide : 20 + 5 ≤ _)⟩)
  dsimp only [Pt.U, Pt.locs, Pt.cells, Pt.slots] at X11 l11 y11 z11 st11 hQ11
  subst l11 y11 z11
  obtain ⟨s3, rfl, N11q, Ex11⟩ := hQ11
  have N11 := Fr.app N10 N11q
  have Kc11 : Keep h0 T11.heap [] := Kc10.ext Ex11
  obtain ⟨T12, h12, X12, e12, E12, A12, D12, -, st12⟩ := newO X11 hx hZ hown (own_w hw 26 rfl) (own_w hw 27 rfl) (own_w hw 28 rfl) rfl (g := (mkF m 71 (own_P p1 p2 p3 p4 q5 q6 (.val (.int (p1 &&& (3 : Int32)))) (.val (.ref sI)) (.val (.ref s0)) (.val (.ref s1)) (.val (.ref s2)) (.val (.ref s3)) .unset .unset .unset) [])) rfl (hb hby at_71) (by decide) (by decide)
  obtain ⟨b12, g12⟩ : ∃ z, z = T11.heap.size := ⟨_, rfl⟩
  rw [← g12] at A12 D12 st12
  have F_modCount_b12 : Fld Z h12 b12 "java/util/AbstractList" "modCount" "I" (.int (0 : Int32)) := D12 (Or.inl (own_w hw 46 rfl)) (ty := .int) (by decide)
  have F_elementData_b12 : Fld Z h12 b12 "java/util/ArrayList" "elementData" "[Ljava/lang/Object;" .null := D12 (Or.inl (own_w hw 49 rfl)) (ty := (.array (.object "java/lang/Object"))) (by decide)
  have F_size_b12 : Fld Z h12 b12 "java/util/ArrayList" "size" "I" (.int (0 : Int32)) := D12 (Or.inl (own_w hw 82 rfl)) (ty := .int) (by decide)
  have E_b12 := A12
  have g_b12 : n0 ≤ b12 := Nat.le_trans (Nat.le_trans Z0 Ex11.1) (Nat.le_of_eq g12.symm)
  have sz_b12 : h0.size ≤ b12 := (Nat.le_trans Kc11.1 (Nat.le_of_eq g12.symm))
  have K12 : Keep h0 h12 [] := Kc11.ext E12
  have Ol := ((Ol.ext Ex11).ext E12)
  have Z0 : n0 ≤ _ := (Nat.le_trans (Nat.le_trans Z0 Ex11.1) E12.1)
  obtain ⟨_, _, ⟨T13, L13, k13, n13⟩, -, X13, ⟨Lc13, hQ13, l13, y13, z13⟩, st13⟩ := X12.specialBack hx (y := own_y3) rfl hown (mvT hZ (own_w hw 29 rfl)) (mvT hZ (own_w hw 30 rfl)) (mvT hZ (own_w hw 31 rfl)) (by decide) (backOf (W := 1) (rm_al l Z a0 hw [] b12 wD _ _ _ h12 n0 Z0 Ol S_DC E_b12 F_elementData_b12 F_size_b12 F_modCount_b12 g_b12) hZ (own_w hw 31 rfl) (own_w hw 28 rfl) (by decide) (by decide)) (g := (mkF m 75 (own_P p1 p2 p3 p4 q5 q6 (.val (.int (p1 &&& (3 : Int32)))) (.val (.ref sI)) (.val (.ref s0)) (.val (.ref s1)) (.val (.ref s2)) (.val (.ref s3)) .unset .unset .unset) [(.ref b12), (.ref b12)])) rfl (by rw [hml]; rfl) (Steps.refl _) (a := b12) (argsL := []) (rest := [(.ref b12)]) (lenOf pd_0_4 rfl) rfl (Nat.le_of_eq rfl) (hb hby at_75) (fun _ _ => ⟨rfl, e12, (by decide : 11 + 0 ≤ _), (by decide : 28 + 0 ≤ _)⟩)
  dsimp only [Pt.U, Pt.locs, Pt.cells, Pt.slots] at X13 l13 y13 z13 st13 hQ13
  subst l13 y13 z13
  obtain ⟨rfl, N13q, K13, El_b12, Fel_b12, Fsl_b12, Fml_b12⟩ := hQ13
  have N13 := Fr.app N11 N13q
  have Kc13 : Keep h0 T13.heap [] := K12.trans K13 (allS (Or.inr sz_b12) all0)
  obtain ⟨T14, h14, X14, e14, E14, A14, D14, -, st14⟩ := newO X13 hx hZ hown (own_w hw 26 rfl) (own_w hw 27 rfl) (own_w hw 28 rfl) rfl (g := (mkF m 166 (own_P p1 p2 p3 p4 q5 q6 (.val (.int (p1 &&& (3 : Int32)))) (.val (.ref sI)) (.val (.ref s0)) (.val (.ref s1)) (.val (.ref s2)) (.val (.ref s3)) (.val (.ref b12)) .unset .unset) [])) rfl (hb hby at_166) (by decide) (by decide)
  obtain ⟨b14, g14⟩ : ∃ z, z = T13.heap.size := ⟨_, rfl⟩
  rw [← g14] at A14 D14 st14
  have F_modCount_b14 : Fld Z h14 b14 "java/util/AbstractList" "modCount" "I" (.int (0 : Int32)) := D14 (Or.inl (own_w hw 46 rfl)) (ty := .int) (by decide)
  have F_elementData_b14 : Fld Z h14 b14 "java/util/ArrayList" "elementData" "[Ljava/lang/Object;" .null := D14 (Or.inl (own_w hw 49 rfl)) (ty := (.array (.object "java/lang/Object"))) (by decide)
  have F_size_b14 : Fld Z h14 b14 "java/util/ArrayList" "size" "I" (.int (0 : Int32)) := D14 (Or.inl (own_w hw 82 rfl)) (ty := .int) (by decide)
  have E_b14 := A14
  have g_b14 : n0 ≤ b14 := Nat.le_trans (Nat.le_trans Z0 K13.1) (Nat.le_of_eq g14.symm)
  have sz_b14 : h0.size ≤ b14 := (Nat.le_trans Kc13.1 (Nat.le_of_eq g14.symm))
  have K14 : Keep h0 h14 [] := Kc13.ext E14
  have Ol := ((Ol.keep K13 (allS g_b12 all0)).ext E14)
  have Z0 : n0 ≤ _ := (Nat.le_trans (Nat.le_trans Z0 K13.1) E14.1)
  obtain ⟨_, _, ⟨T15, L15, k15, n15⟩, -, X15, ⟨Lc15, hQ15, l15, y15, z15⟩, st15⟩ := X14.specialBack hx (y := own_y3) rfl hown (mvT hZ (own_w hw 29 rfl)) (mvT hZ (own_w hw 30 rfl)) (mvT hZ (own_w hw 31 rfl)) (by decide) (backOf (W := 1) (rm_al l Z a0 hw [] b14 wD _ _ _ h14 n0 Z0 Ol S_DC E_b14 F_elementData_b14 F_size_b14 F_modCount_b14 g_b14) hZ (own_w hw 31 rfl) (own_w hw 28 rfl) (by decide) (by decide)) (g := (mkF m 170 (own_P p1 p2 p3 p4 q5 q6 (.val (.int (p1 &&& (3 : Int32)))) (.val (.ref sI)) (.val (.ref s0)) (.val (.ref s1)) (.val (.ref s2)) (.val (.ref s3)) (.val (.ref b12)) .unset .unset) [(.ref b14), (.ref b14)])) rfl (by rw [hml]; rfl) (Steps.refl _) (a := b14) (argsL := []) (rest := [(.ref b14)]) (lenOf pd_0_4 rfl) rfl (Nat.le_of_eq rfl) (hb hby at_170) (fun _ _ => ⟨rfl, e14, (by decide : 12 + 0 ≤ _), (by decide : 31 + 0 ≤ _)⟩)
  dsimp only [Pt.U, Pt.locs, Pt.cells, Pt.slots] at X15 l15 y15 z15 st15 hQ15
  subst l15 y15 z15
  obtain ⟨rfl, N15q, K15, Ew_b14, Few_b14, Fsw_b14, Fmw_b14⟩ := hQ15
  have N15 := Fr.app N13 N15q
  have Kc15 : Keep h0 T15.heap [] := K14.trans K15 (allS (Or.inr sz_b14) all0)
  have Ol := (Ol.keep K15 (allS g_b14 all0))
  have Z0 : n0 ≤ _ := (Nat.le_trans Z0 K15.1)
  obtain ⟨_, _, ⟨T16, L16, k16, n16⟩, -, X16, ⟨Lc16, hQ16, l16, y16, z16⟩, st16⟩ := Jvm.LawKit.callS X15 hx (y := own_y1) hown (mvT hZ (own_w hw 50 rfl)) (mvT hZ (own_w hw 51 rfl)) (mvT hZ (own_w hw 52 rfl)) (mvT hZ (own_w hw 53 rfl)) (by decide) (backOf (W := 1) (HL T15.heap Z0 Ol) hZ (own_w hw 53 rfl) (own_w hw 52 rfl) (by decide) (by decide)) (g := (mkF m 179 (own_P p1 p2 p3 p4 q5 q6 (.val (.int (p1 &&& (3 : Int32)))) (.val (.ref sI)) (.val (.ref s0)) (.val (.ref s1)) (.val (.ref s2)) (.val (.ref s3)) (.val (.ref b12)) (.val (.ref b14)) .unset) [(.long q5), (.ref b14)])) rfl (by rw [hml]; rfl) (argsL := [(.long q5)]) (rest := [(.ref b14)]) (lenOf pd_0_5 rfl) rfl (Nat.le_of_eq rfl) (hb hby at_179) (fun _ _ => ⟨rfl, rfl, (by decide : 12 + 1 ≤ _), (by decide : 31 + 1 ≤ _)⟩)
  dsimp only [Pt.U, Pt.locs, Pt.cells, Pt.slots] at X16 l16 y16 z16 st16 hQ16
  subst l16 y16 z16
  obtain ⟨bV, rfl, N16q, ExV, EaV⟩ := hQ16
  have N16 := Fr.app N15 N16q
  have Kc16 : Keep h0 T16.heap [] := Kc15.ext ExV
  have f2 := (Ew_b14.ext ExV)
  have f3 := (Few_b14.ext ExV)
  have f4 := (Fsw_b14.ext ExV)
  have f5 := (Fmw_b14.ext ExV)
  have Ol := (Ol.ext ExV)
  have Z0 : n0 ≤ _ := (Nat.le_trans Z0 ExV.1)
  have f1 := (Ew_b14.ext ExV)
  obtain ⟨cq17, kq17, q17a, q17b, q17c⟩ := isOf hZ rfl f1
  obtain ⟨_, _, ⟨T17, L17, k17, n17⟩, -, X17, ⟨Lc17, hQ17, l17, y17, z17⟩, st17⟩ := X16.interfaceBack hx (xi := own_y11) (y := own_y4) hown (mvT hZ (own_w hw 70 rfl)) (mvT hZ (own_w hw 71 rfl)) (mvT hZ (own_w hw 72 rfl)) (mvT hZ (own_w hw 73 rfl)) (mvT hZ (own_w hw 74 rfl)) (mvT hZ (own_w hw 75 rfl)) (mvT hZ (own_w hw 76 rfl)) (mvT hZ (own_w hw 77 rfl)) (by decide) (backOf (W := 0) (rm_adda l Z a0 hw [] b14 bV wD (0 : Int32) (0 : Int32) cD T16.heap n0 Z0 Ol S_DC f2 f3 f4 f5 (A_D.ext (Ol).2) hszD g_b14 (by decide) (Ins.of_exa EaV (own_w hw 104 rfl)) ((Ol).ne A_D.lt g_b14) rfl (by decide) (by decide)) hZ (own_w hw 78 rfl) (own_w hw 28 rfl) (by decide) (by decide)) q17a q17b q17c (g := (mkF m 182 (own_P p1 p2 p3 p4 q5 q6 (.val (.int (p1 &&& (3 : Int32)))) (.val (.ref sI)) (.val (.ref s0)) (.val (.ref s1)) (.val (.ref s2)) (.val (.ref s3)) (.val (.ref b12)) (.val (.ref b14)) .unset) [(.ref bV), (.ref b14)])) rfl (by rw [hml]; rfl) (Steps.refl _) (argsL := [(.ref bV)]) (rest := []) (lenOf pd_0_7 rfl) rfl (Nat.le_of_eq rfl) (hb hby at_182) (fun _ _ => ⟨rfl, rfl, (by decide : 13 + 1 ≤ _), (by decide : 32 + 10 ≤ _)⟩)
  dsimp only [Pt.U, Pt.locs, Pt.cells, Pt.slots] at X17 l17 y17 z17 st17 hQ17
  subst l17 y17 z17
  obtain ⟨bP, kP, rfl, N17q, Kg17, Ey_b14, Fey_b14, Fsy_b14, Fmy_b14, VP, OP, ggP, szgP, EaP⟩ := hQ17
  have N17 := Fr.app N16 N17q
  have Kc17 : Keep h0 T17.heap [] := Kc16.trans Kg17 (allS (Or.inr sz_b14) all0)
  have hneP : b14 ≠ bP := by obtain ⟨c9, Ac, -⟩ := own_arr VP; exact ne_arr Ey_b14 (own_w hw 27 rfl) Ac
  have szP : h0.size ≤ bP := Nat.le_trans (Kc16).1 szgP
  obtain ⟨T18, h18, X18, e18, E18, A18, D18, -, st18⟩ := newO X17 hx hZ hown (own_w hw 105 rfl) (own_w hw 106 rfl) (own_w hw 107 rfl) rfl (g := (mkF m 188 (own_P p1 p2 p3 p4 q5 q6 (.val (.int (p1 &&& (3 : Int32)))) (.val (.ref sI)) (.val (.ref s0)) (.val (.ref s1)) (.val (.ref s2)) (.val (.ref s3)) (.val (.ref b12)) (.val (.ref b14)) .unset) [])) rfl (hb hby at_188) (by decide) (by decide)
  obtain ⟨b18, g18⟩ : ∃ z, z = T17.heap.size := ⟨_, rfl⟩
  rw [← g18] at A18 D18 st18
  have F_graph_b18 : Fld Z h18 b18 "com/example/arcrover/arcrover/Exploration" "graph" "Lcom/example/arcrover/arcrover/StateMachine;" .null := D18 (Or.inr (own_w hw 253 rfl)) (ty := (.object "com/example/arcrover/arcrover/StateMachine")) (by decide)
  have F_states_b18 : Fld Z h18 b18 "com/example/arcrover/arcrover/Exploration" "states" "I" (.int (0 : Int32)) := D18 (Or.inr (own_w hw 255 rfl)) (ty := .int) (by decide)
  have F_untried_b18 : Fld Z h18 b18 "com/example/arcrover/arcrover/Exploration" "untried" "I" (.int (0 : Int32)) := D18 (Or.inr (own_w hw 257 rfl)) (ty := .int) (by decide)
  have F_stimuli_b18 : Fld Z h18 b18 "com/example/arcrover/arcrover/Exploration" "stimuli" "J" (.long (0 : Int64)) := D18 (Or.inr (own_w hw 259 rfl)) (ty := .long) (by decide)
  have F_restarts_b18 : Fld Z h18 b18 "com/example/arcrover/arcrover/Exploration" "restarts" "J" (.long (0 : Int64)) := D18 (Or.inr (own_w hw 261 rfl)) (ty := .long) (by decide)
  have F_walkerStimuli_b18 : Fld Z h18 b18 "com/example/arcrover/arcrover/Exploration" "walkerStimuli" "Ljava/util/List;" .null := D18 (Or.inr (own_w hw 263 rfl)) (ty := (.object "java/util/List")) (by decide)
  have F_verdict_b18 : Fld Z h18 b18 "com/example/arcrover/arcrover/Exploration" "verdict" "Lcom/example/arcrover/arcrover/Verdict;" .null := D18 (Or.inr (own_w hw 265 rfl)) (ty := (.object "com/example/arcrover/arcrover/Verdict")) (by decide)
  have F_witness_b18 : Fld Z h18 b18 "com/example/arcrover/arcrover/Exploration" "witness" "Lcom/example/arcrover/arcrover/Witness;" .null := D18 (Or.inr (own_w hw 267 rfl)) (ty := (.object "com/example/arcrover/arcrover/Witness")) (by decide)
  have F_rejections_b18 : Fld Z h18 b18 "com/example/arcrover/arcrover/Exploration" "rejections" "Ljava/util/List;" .null := D18 (Or.inr (own_w hw 269 rfl)) (ty := (.object "java/util/List")) (by decide)
  have E_b18 := A18
  have g_b18 : n0 ≤ b18 := Nat.le_trans (Nat.le_trans Z0 Kg17.1) (Nat.le_of_eq g18.symm)
  have sz_b18 : h0.size ≤ b18 := (Nat.le_trans Kc17.1 (Nat.le_of_eq g18.symm))
  have K18 : Keep h0 h18 [] := Kc17.ext E18
  obtain ⟨T19, h19, X19, e19, E19, A19, D19, -, st19⟩ := newO X18 hx hZ hown (own_w hw 108 rfl) (own_w hw 109 rfl) (own_w hw 110 rfl) e18 (g := (mkF m 192 (own_P p1 p2 p3 p4 q5 q6 (.val (.int (p1 &&& (3 : Int32)))) (.val (.ref sI)) (.val (.ref s0)) (.val (.ref s1)) (.val (.ref s2)) (.val (.ref s3)) (.val (.ref b12)) (.val (.ref b14)) .unset) [(.ref b18), (.ref b18)])) rfl (hb hby at_192) (by decide) (by decide)
  obtain ⟨b19, g19⟩ : ∃ z, z = h18.size := ⟨_, rfl⟩
  rw [← g19] at A19 D19 st19
  have F_initial_b19 : Fld Z h19 b19 "com/example/arcrover/arcrover/StateMachine" "initial" "Ljava/lang/String;" .null := D19 (Or.inr (own_w hw 180 rfl)) (ty := (.object "java/lang/String")) (by decide)
  have F_transitions_b19 : Fld Z h19 b19 "com/example/arcrover/arcrover/StateMachine" "transitions" "Ljava/util/List;" .null := D19 (Or.inr (own_w hw 182 rfl)) (ty := (.object "java/util/List")) (by decide)
  have F_probabilities_b19 : Fld Z h19 b19 "com/example/arcrover/arcrover/StateMachine" "probabilities" "Ljava/util/Map;" .null := D19 (Or.inr (own_w hw 184 rfl)) (ty := (.object "java/util/Map")) (by decide)
  have E_b19 := A19
  have g_b19 : n0 ≤ b19 := Nat.le_trans (Nat.le_trans (Nat.le_trans Z0 Kg17.1) E18.1) (Nat.le_of_eq g19.symm)
  have sz_b19 : h0.size ≤ b19 := (Nat.le_trans K18.1 (Nat.le_of_eq g19.symm))
  have K19 : Keep h0 h19 [] := K18.ext E19
  have f6 := ((((((El_b12.ext E14).keep K15).ext ExV).keep Kg17).ext E18).ext E19)
  have f7 := ((((((Fsl_b12.ext E14).keep K15 (ninS (Nat.ne_of_lt (Nat.lt_of_lt_of_le El_b12.lt (Nat.le_of_eq g14.symm))) (nin0))).ext ExV).keep Kg17 (ninS (Nat.ne_of_lt (Nat.lt_of_lt_of_le El_b12.lt (Nat.le_of_eq g14.symm))) (nin0))).ext E18).ext E19)
  have Ol := (((Ol.keep Kg17 (allS g_b14 all0)).ext E18).ext E19)
  have Z0 : n0 ≤ _ := (Nat.le_trans (Nat.le_trans (Nat.le_trans Z0 Kg17.1) E18.1) E19.1)
  obtain ⟨_, _, ⟨T20, L20, k20, n20⟩, -, X20, hSn20, hGr20, ⟨Lc20, hQ20, l20, y20, z20⟩, st20⟩ := X19.specialBackS hx (y := own_y8) rfl hown (mvT hZ (own_w hw 111 rfl)) (mvT hZ (own_w hw 112 rfl)) (mvT hZ (own_w hw 113 rfl)) (by decide) (backOfS (W := 3) (rm_sm2_0 l Z a0 hw [] b19 sI b12 wM wL _ _ _ h19 n0 Z0 Ol S_EMPTY_MAP S_EMPTY_LIST f6 f7 (E_M.ext (Ol).2) (F_M.ext (Ol).2) E_b19 F_initial_b19 F_transitions_b19 F_probabilities_b19 g_b19) hZ (own_w hw 113 rfl) (own_w hw 110 rfl) (by decide) (by decide)) (g := (mkF m 200 (own_P p1 p2 p3 p4 q5 q6 (.val (.int (p1 &&& (3 : Int32)))) (.val (.ref sI)) (.val (.ref s0)) (.val (.ref s1)) (.val (.ref s2)) (.val (.ref s3)) (.val (.ref b12)) (.val (.ref b14)) .unset) [(.ref b12), (.ref sI), (.ref b19), (.ref b19), (.ref b18), (.ref b18)])) rfl (by rw [hml]; rfl) (Steps.refl _) (a := b19) (argsL := [(.ref sI), (.ref b12)]) (rest := [(.ref b19), (.ref b18), (.ref b18)]) (lenOf pd_0_12 rfl) rfl (Nat.le_of_eq rfl) (hb hby at_200) (fun _ _ => ⟨rfl, e19, (by decide : 16 + 2 ≤ _), (by decide : 54 + 32 ≤ _)⟩)
  dsimp only [Pt.U, Pt.locs, Pt.cells, Pt.slots] at X20 l20 y20 z20 st20 hQ20 hSn20 hGr20
  subst l20 y20 z20
  obtain ⟨bL, rfl, N20q, Ks, Es, Ft, Ls⟩ := hQ20
  have N20 := Fr.app N17 N20q
  replace X20 : Stand p l e _ (s.setVm T20.vm) m _ below meth c T20 _ _ _ := X20
  have hS := hS.trans hSn20 (Nat.le_trans (by rw [e19]; exact (Nat.le_trans (Nat.le_trans (Nat.le_trans (Nat.le_trans (Nat.le_trans (Nat.le_trans (Nat.le_trans (Nat.le_trans (Nat.le_trans (Nat.le_trans (Nat.le_trans (Nat.le_trans (Nat.le_trans hk Ex7.1) Ex8.1) Ex9.1) Ex10.1) Ex11.1) E12.1) K13.1) E14.1) K15.1) ExV.1) Kg17.1) E18.1) E19.1)) hGr20)
  have hk : T20.heap.size ≤ T20.heap.size := Nat.le_refl _
  have hZ := State.Warmed39.trans (t := s.setVm _) hZ hSn20.1
  have hown : (s.setVm T20.vm).vm.findClass "com/example/arcrover/arcrover/ExplorationTransitionsPinLaw" = some m.cls := by rw [show (s.setVm T20.vm).vm = T20.vm from rfl, hSn20.1.alike.findClass]; exact hown
  have Kc20 : Keep h0 T20.heap [] := K19.trans Ks (allS (Or.inr sz_b19) all0)
  rw [Ls] at Ft
  obtain ⟨T21, h21, X21, e21, E21, A21, D21, -, st21⟩ := newO X20 hx hZ hown (own_w hw 26 rfl) (own_w hw 27 rfl) (own_w hw 28 rfl) rfl (g := (mkF m 213 (own_P p1 p2 p3 p4 q5 q6 (.val (.int (p1 &&& (3 : Int32)))) (.val (.ref sI)) (.val (.ref s0)) (.val (.ref s1)) (.val (.ref s2)) (.val (.ref s3)) (.val (.ref b12)) (.val (.ref b14)) .unset) [.null, .null, (.ref b14), (.long q6), (.long q5), (.int p4), (.int p3), (.ref b19), (.ref b18), (.ref b18)])) rfl (hb hby at_213) (by decide) (by decide)
  obtain ⟨b21, g21⟩ : ∃ z, z = T20.heap.size := ⟨_, rfl⟩
  rw [← g21] at A21 D21 st21
  have F_modCount_b21 : Fld Z h21 b21 "java/util/AbstractList" "modCount" "I" (.int (0 : Int32)) := D21 (Or.inl (own_w hw 46 rfl)) (ty := .int) (by decide)
  have F_elementData_b21 : Fld Z h21 b21 "java/util/ArrayList" "elementData" "[Ljava/lang/Object;" .null := D21 (Or.inl (own_w hw 49 rfl)) (ty := (.array (.object "java/lang/Object"))) (by decide)
  have F_size_b21 : Fld Z h21 b21 "java/util/ArrayList" "size" "I" (.int (0 : Int32)) := D21 (Or.inl (own_w hw 82 rfl)) (ty := .int) (by decide)
  have E_b21 := A21
  have g_b21 : n0 ≤ b21 := Nat.le_trans (Nat.le_trans Z0 Ks.1) (Nat.le_of_eq g21.symm)
  have sz_b21 : h0.size ≤ b21 := (Nat.le_trans Kc20.1 (Nat.le_of_eq g21.symm))
  have K21 : Keep h0 h21 [] := Kc20.ext E21
  have Ol := ((Ol.keep Ks (allS g_b19 all0)).ext E21)
  have Z0 : n0 ≤ _ := (Nat.le_trans (Nat.le_trans Z0 Ks.1) E21.1)
  obtain ⟨_, _, ⟨T22, L22, k22, n22⟩, -, X22, ⟨Lc22, hQ22, l22, y22, z22⟩, st22⟩ := X21.specialBack hx (y := own_y3) rfl hown (mvT hZ (own_w hw 29 rfl)) (mvT hZ (own_w hw 30 rfl)) (mvT hZ (own_w hw 31 rfl)) (by decide) (backOf (W := 13) (rm_al l Z a0 hw [] b21 wD _ _ _ h21 n0 Z0 Ol S_DC E_b21 F_elementData_b21 F_size_b21 F_modCount_b21 g_b21) hZ (own_w hw 31 rfl) (own_w hw 28 rfl) (by decide) (by decide)) (g := (mkF m 217 (own_P p1 p2 p3 p4 q5 q6 (.val (.int (p1 &&& (3 : Int32)))) (.val (.ref sI)) (.val (.ref s0)) (.val (.ref s1)) (.val (.ref s2)) (.val (.ref s3)) (.val (.ref b12)) (.val (.ref b14)) .unset) [(.ref b21), (.ref b21), .null, .null, (.ref b14), (.long q6), (.long q5), (.int p4), (.int p3), (.ref b19), (.ref b18), (.ref b18)])) rfl (by rw [hml]; rfl) (Steps.refl _) (a := b21) (argsL := []) (rest := [(.ref b21), .null, .null, (.ref b14), (.long q6), (.long q5), (.int p4), (.int p3), (.ref b19), (.ref b18), (.ref b18)]) (lenOf pd_0_4 rfl) rfl (Nat.le_of_eq rfl) (hb hby at_217) (fun _ _ => ⟨rfl, e21, (by decide : 19 + 0 ≤ _), (by decide : 89 + 0 ≤ _)⟩)
  dsimp only [Pt.U, Pt.locs, Pt.cells, Pt.slots] at X22 l22 y22 z22 st22 hQ22
  subst l22 y22 z22
  obtain ⟨rfl, N22q, K22, Er_b21, Fer_b21, Fsr_b21, Fmr_b21⟩ := hQ22
  have N22 := Fr.app N20 N22q
  have Kc22 : Keep h0 T22.heap [] := K21.trans K22 (allS (Or.inr sz_b21) all0)
  have f8 := (((((Ey_b14.ext E18).ext E19).keep Ks).ext E21).keep K22)
  have f9 := (((((Fey_b14.ext E18).ext E19).keep Ks (ninS (Nat.ne_of_lt (Nat.lt_of_lt_of_le (((Ew_b14.ext ExV).keep Kg17).ext E18).lt (Nat.le_of_eq g19.symm))) (nin0))).ext E21).keep K22 (ninS (Nat.ne_of_lt (Nat.lt_of_lt_of_le (((((Ew_b14.ext ExV).keep Kg17).ext E18).ext E19).keep Ks).lt (Nat.le_of_eq g21.symm))) (nin0)))
  have f10 := (((((Fsy_b14.ext E18).ext E19).keep Ks (ninS (Nat.ne_of_lt (Nat.lt_of_lt_of_le (((Ew_b14.ext ExV).keep Kg17).ext E18).lt (Nat.le_of_eq g19.symm))) (nin0))).ext E21).keep K22 (ninS (Nat.ne_of_lt (Nat.lt_of_lt_of_le (((((Ew_b14.ext ExV).keep Kg17).ext E18).ext E19).keep Ks).lt (Nat.le_of_eq g21.symm))) (nin0)))
  have f11 := (((((VP.ext E18).ext E19).keep Ks (ninS (Nat.ne_of_lt (Nat.lt_of_lt_of_le (VP.ext E18).lt (Nat.le_of_eq g19.symm))) (nin0))).ext E21).keep K22 (ninS (Nat.ne_of_lt (Nat.lt_of_lt_of_le (((VP.ext E18).ext E19).keep Ks (ninS (Nat.ne_of_lt (Nat.lt_of_lt_of_le (VP.ext E18).lt (Nat.le_of_eq g19.symm))) (nin0))).lt (Nat.le_of_eq g21.symm))) (nin0)))
  have f12 := (((((EaP.ext E18).ext E19).keep Ks).ext E21).keep K22)
  have f13 := ((((((EaV.keep Kg17).ext E18).ext E19).keep Ks).ext E21).keep K22)
  have f14 := ((((E_b18.ext E19).keep Ks).ext E21).keep K22)
  have f15 := ((((F_graph_b18.ext E19).keep Ks (ninS (Nat.ne_of_lt (Nat.lt_of_lt_of_le E_b18.lt (Nat.le_of_eq g19.symm))) (nin0))).ext E21).keep K22 (ninS (Nat.ne_of_lt (Nat.lt_of_lt_of_le ((E_b18.ext E19).keep Ks).lt (Nat.le_of_eq g21.symm))) (nin0)))
  have f16 := ((((F_states_b18.ext E19).keep Ks (ninS (Nat.ne_of_lt (Nat.lt_of_lt_of_le E_b18.lt (Nat.le_of_eq g19.symm))) (nin0))).ext E21).keep K22 (ninS (Nat.ne_of_lt (Nat.lt_of_lt_of_le ((E_b18.ext E19).keep Ks).lt (Nat.le_of_eq g21.symm))) (nin0)))
  have f17 := ((((F_untried_b18.ext E19).keep Ks (ninS (Nat.ne_of_lt (Nat.lt_of_lt_of_le E_b18.lt (Nat.le_of_eq g19.symm))) (nin0))).ext E21).keep K22 (ninS (Nat.ne_of_lt (Nat.lt_of_lt_of_le ((E_b18.ext E19).keep Ks).lt (Nat.le_of_eq g21.symm))) (nin0)))
  have f18 := ((((F_stimuli_b18.ext E19).keep Ks (ninS (Nat.ne_of_lt (Nat.lt_of_lt_of_le E_b18.lt (Nat.le_of_eq g19.symm))) (nin0))).ext E21).keep K22 (ninS (Nat.ne_of_lt (Nat.lt_of_lt_of_le ((E_b18.ext E19).keep Ks).lt (Nat.le_of_eq g21.symm))) (nin0)))
  have f19 := ((((F_restarts_b18.ext E19).keep Ks (ninS (Nat.ne_of_lt (Nat.lt_of_lt_of_le E_b18.lt (Nat.le_of_eq g19.symm))) (nin0))).ext E21).keep K22 (ninS (Nat.ne_of_lt (Nat.lt_of_lt_of_le ((E_b18.ext E19).keep Ks).lt (Nat.le_of_eq g21.symm))) (nin0)))
  have f20 := ((((F_walkerStimuli_b18.ext E19).keep Ks (ninS (Nat.ne_of_lt (Nat.lt_of_lt_of_le E_b18.lt (Nat.le_of_eq g19.symm))) (nin0))).ext E21).keep K22 (ninS (Nat.ne_of_lt (Nat.lt_of_lt_of_le ((E_b18.ext E19).keep Ks).lt (Nat.le_of_eq g21.symm))) (nin0)))
  have f21 := ((((F_verdict_b18.ext E19).keep Ks (ninS (Nat.ne_of_lt (Nat.lt_of_lt_of_le E_b18.lt (Nat.le_of_eq g19.symm))) (nin0))).ext E21).keep K22 (ninS (Nat.ne_of_lt (Nat.lt_of_lt_of_le ((E_b18.ext E19).keep Ks).lt (Nat.le_of_eq g21.symm))) (nin0)))
  have f22 := ((((F_witness_b18.ext E19).keep Ks (ninS (Nat.ne_of_lt (Nat.lt_of_lt_of_le E_b18.lt (Nat.le_of_eq g19.symm))) (nin0))).ext E21).keep K22 (ninS (Nat.ne_of_lt (Nat.lt_of_lt_of_le ((E_b18.ext E19).keep Ks).lt (Nat.le_of_eq g21.symm))) (nin0)))
  have f23 := ((((F_rejections_b18.ext E19).keep Ks (ninS (Nat.ne_of_lt (Nat.lt_of_lt_of_le E_b18.lt (Nat.le_of_eq g19.symm))) (nin0))).ext E21).keep K22 (ninS (Nat.ne_of_lt (Nat.lt_of_lt_of_le ((E_b18.ext E19).keep Ks).lt (Nat.le_of_eq g21.symm))) (nin0)))
  have Ol := (Ol.keep K22 (allS g_b21 all0))
  have Z0 : n0 ≤ _ := (Nat.le_trans Z0 K22.1)
  obtain ⟨_, _, ⟨T23, L23, k23, n23⟩, -, X23, ⟨Lc23, hQ23, l23, y23, z23⟩, st23⟩ := X22.specialBack hx (y := own_y26) rfl hown (mvT hZ (own_w hw 185 rfl)) (mvT hZ (own_w hw 186 rfl)) (mvT hZ (own_w hw 187 rfl)) (by decide) (backOf (W := 1) (rm_xinit l Z a0 hw [] b18 b19 p3 p4 q5 q6 b14 b21 kP _ bV bP aM wO wL _ _ _ _ _ _ _ _ _ T22.heap n0 Z0 Ol S_EMPTY f8 f9 (by have q := f10; rw [show ((0 : Int32) + (1 : Int32)) = (1 : Int32) from by decide] at q; exact q) f11 f12 Mr (by rfl) (Ins.of_exa f13 (own_w hw 104 rfl)) S_EMPTY_LIST Er_b21 Fsr_b21 f14 f15 g_b18 f16 f17 f18 f19 f20 f21 f22 f23) hZ (own_w hw 187 rfl) (own_w hw 107 rfl) (by decide) (by decide)) (g := (mkF m 220 (own_P p1 p2 p3 p4 q5 q6 (.val (.int (p1 &&& (3 : Int32)))) (.val (.ref sI)) (.val (.ref s0)) (.val (.ref s1)) (.val (.ref s2)) (.val (.ref s3)) (.val (.ref b12)) (.val (.ref b14)) .unset) [(.ref b21), .null, .null, (.ref b14), (.long q6), (.long q5), (.int p4), (.int p3), (.ref b19), (.ref b18), (.ref b18)])) rfl (by rw [hml]; rfl) (Steps.refl _) (a := b18) (argsL := [(.ref b19), (.int p3), (.int p4), (.long q5), (.long q6), (.ref b14), .null, .null, (.ref b21)]) (rest := [(.ref b18)]) (lenOf pd_0_20 rfl) rfl (Nat.le_of_eq rfl) (hb hby at_220) (fun _ _ => ⟨rfl, rfl, (by decide : 19 + 2 ≤ _), (by decide : 89 + 3 ≤ _)⟩)
  dsimp only [Pt.U, Pt.locs, Pt.cells, Pt.slots] at X23 l23 y23 z23 st23 hQ23
  subst l23 y23 z23
  obtain ⟨rfl, N23q, Kx, Exx, Fgx⟩ := hQ23
  have N23 := Fr.app N22 N23q
  have Kc23 : Keep h0 T23.heap [] := Kc22.trans Kx (allS (Or.inr sz_b18) all0)
  have f24 := (((Es.ext E21).keep K22).keep Kx)
  have f25 := (((Ft.ext E21).keep K22 (ninS (Nat.ne_of_lt (Nat.lt_of_lt_of_le Es.lt (Nat.le_of_eq g21.symm))) (nin0))).keep Kx (ninS (Ne.symm (Nat.ne_of_lt (Nat.lt_of_lt_of_le E_b18.lt (Nat.le_of_eq g19.symm)))) (nin0)))
  have Ol := (Ol.keep Kx (allS g_b18 all0))
  have Z0 : n0 ≤ _ := (Nat.le_trans Z0 Kx.1)
  obtain ⟨cq24, kq24, q24a, q24b, q24c⟩ := isOf hZ rfl Exx
  obtain ⟨_, _, ⟨T24, L24, k24, n24⟩, -, X24, ⟨Lc24, hQ24, l24, y24, z24⟩, st24⟩ := X23.virtualBack hx (y := own_y2) (z := own_y2) hown (mvT hZ (own_w hw 270 rfl)) (mvT hZ (own_w hw 271 rfl)) (notFace_of_selects (args := #[]) (mvT hZ (own_w hw 273 rfl))) (mvT hZ (own_w hw 273 rfl)) (mvT hZ (own_w hw 272 rfl)) (by decide) (backOf (W := 0) (rm_trn0 l Z a0 hw [] b18 b19 wL wE0 cE0 T23.heap n0 Z0 Fgx f24 f25 (E_L.ext (Ol).2) (F_L.ext (Ol).2) (A_L.ext (Ol).2) hszL) hZ (own_w hw 274 rfl) (own_w hw 107 rfl) (by decide) (by decide)) q24a q24c (g := (mkF m 227 (own_P p1 p2 p3 p4 q5 q6 (.val (.int (p1 &&& (3 : Int32)))) (.val (.ref sI)) (.val (.ref s0)) (.val (.ref s1)) (.val (.ref s2)) (.val (.ref s3)) (.val (.ref b12)) (.val (.ref b14)) (.val (.ref b18))) [(.ref b18)])) rfl (by rw [hml]; rfl) (Steps.refl _) (argsL := []) (rest := []) (lenOf pd_0_28 rfl) rfl (Nat.le_of_eq rfl) (hb hby at_227) (fun _ _ => ⟨rfl, rfl, (by decide : 21 + 0 ≤ _), (by decide : 92 + 0 ≤ _)⟩)
  dsimp only [Pt.U, Pt.locs, Pt.cells, Pt.slots] at X24 l24 y24 z24 st24 hQ24
  subst l24 y24 z24
  obtain ⟨rfl, N24q, K24⟩ := hQ24
  have N24 := Fr.app N23 N24q
  have hkEnd := Nat.le_trans (Nat.le_trans (Nat.le_trans (Nat.le_trans hk E21.1) K22.1) Kx.1) (Nat.le_of_eq (congrArg Array.size K24).symm)
  obtain ⟨fs, hr, hrun, hended, hEW⟩ := X24.leaveW hS hkEnd (v := some (.int (1 : Int32))) (fun h => by rw [Bd.returns] at h; cases h)
  refine ⟨_, _, pre0 _ ?_, hrun, hended, _, _, rfl, ?_, hEW.1, hEW.2.1, hEW.2.2.1, hEW.2.2.2.mono (by decide) (by decide)⟩
  · show Steps _ _ _ (s₁.setTop (mkF m 0 (own_P p1 p2 p3 p4 q5 q6 .unset .unset .unset .unset .unset .unset .unset .unset .unset) [])) _
    refine XS.iloadN X0.here hx rfl (hb hby at_0) rfl ?_
    refine XS.iconst X0.here hx rfl (hb hby at_1) ?_
    refine XS.iand X0.here hx rfl (hb hby at_2) rfl ?_
    refine XS.istore X0.here hx rfl (hb hby at_3) rfl (l' := (own_P p1 p2 p3 p4 q5 q6 (.val (.int (p1 &&& (3 : Int32)))) .unset .unset .unset .unset .unset .unset .unset .unset)) rfl ?_
    show Steps _ _ _ (s₁.setTop (mkF m 5 (own_P p1 p2 p3 p4 q5 q6 (.val (.int (p1 &&& (3 : Int32)))) .unset .unset .unset .unset .unset .unset .unset .unset) [])) _
    refine XS.iloadN X0.here hx rfl (hb hby at_5) rfl ?_
    refine XS.iconst X0.here hx rfl (hb hby at_6) ?_
    refine XS.iushr X0.here hx rfl (hb hby at_7) rfl ?_
    refine XS.sipush X0.here hx rfl (hb hby at_8) ?_
    show Steps _ _ _ (s₁.setTop (mkF m 11 (own_P p1 p2 p3 p4 q5 q6 (.val (.int (p1 &&& (3 : Int32)))) .unset .unset .unset .unset .unset .unset .unset .unset) [(.int (255 : Int32)), (.int ((p1.toUInt32 >>> ((2 : Int32) &&& 31).toUInt32).toInt32))])) _
    refine XS.iand X0.here hx rfl (hb hby at_11) rfl ?_
    refine XS.i2c X0.here hx rfl (hb hby at_12) rfl ?_
    show Steps _ _ _ (s₁.setTop (mkF m 13 (own_P p1 p2 p3 p4 q5 q6 (.val (.int (p1 &&& (3 : Int32)))) .unset .unset .unset .unset .unset .unset .unset .unset) [(.int ((((p1.toUInt32 >>> ((2 : Int32) &&& 31).toUInt32).toInt32) &&& (255 : Int32)).toUInt32.toUInt16.toUInt32.toInt32))])) _
    refine st7 _ ?_
    show Steps _ _ _ (T7.setTop (mkF m 16 (own_P p1 p2 p3 p4 q5 q6 (.val (.int (p1 &&& (3 : Int32)))) .unset .unset .unset .unset .unset .unset .unset .unset) [(.ref sI)])) _
    refine XS.astore X7.here hx rfl (hb hby at_16) rfl rfl (l' := (own_P p1 p2 p3 p4 q5 q6 (.val (.int (p1 &&& (3 : Int32)))) (.val (.ref sI)) .unset .unset .unset .unset .unset .unset .unset)) rfl ?_
    refine XS.iloadN X7.here hx rfl (hb hby at_18) rfl ?_
    refine XS.sipush X7.here hx rfl (hb hby at_19) ?_
    refine XS.iand X7.here hx rfl (hb hby at_22) rfl ?_
    show Steps _ _ _ (T7.setTop (mkF m 23 (own_P p1 p2 p3 p4 q5 q6 (.val (.int (p1 &&& (3 : Int32)))) (.val (.ref sI)) .unset .unset .unset .unset .unset .unset .unset) [(.int (p2 &&& (255 : Int32)))])) _
    refine XS.i2c X7.here hx rfl (hb hby at_23) rfl ?_
    show Steps _ _ _ (T7.setTop (mkF m 24 (own_P p1 p2 p3 p4 q5 q6 (.val (.int (p1 &&& (3 : Int32)))) (.val (.ref sI)) .unset .unset .unset .unset .unset .unset .unset) [(.int ((p2 &&& (255 : Int32)).toUInt32.toUInt16.toUInt32.toInt32))])) _
    refine st8 _ ?_
    show Steps _ _ _ (T8.setTop (mkF m 27 (own_P p1 p2 p3 p4 q5 q6 (.val (.int (p1 &&& (3 : Int32)))) (.val (.ref sI)) .unset .unset .unset .unset .unset .unset .unset) [(.ref s0)])) _
    refine XS.astore X8.here hx rfl (hb hby at_27) rfl rfl (l' := (own_P p1 p2 p3 p4 q5 q6 (.val (.int (p1 &&& (3 : Int32)))) (.val (.ref sI)) (.val (.ref s0)) .unset .unset .unset .unset .unset .unset)) rfl ?_
    refine XS.iloadN X8.here hx rfl (hb hby at_29) rfl ?_
    refine XS.bipush X8.here hx rfl (hb hby at_30) ?_
    refine XS.iushr X8.here hx rfl (hb hby at_32) rfl ?_
    show Steps _ _ _ (T8.setTop (mkF m 33 (own_P p1 p2 p3 p4 q5 q6 (.val (.int (p1 &&& (3 : Int32)))) (.val (.ref sI)) (.val (.ref s0)) .unset .unset .unset .unset .unset .unset) [(.int ((p2.toUInt32 >>> ((8 : Int32) &&& 31).toUInt32).toInt32))])) _
    refine XS.sipush X8.here hx rfl (hb hby at_33) ?_
    refine XS.iand X8.here hx rfl (hb hby at_36) rfl ?_
    refine XS.i2c X8.here hx rfl (hb hby at_37) rfl ?_
    show Steps _ _ _ (T8.setTop (mkF m 38 (own_P p1 p2 p3 p4 q5 q6 (.val (.int (p1 &&& (3 : Int32)))) (.val (.ref sI)) (.val (.ref s0)) .unset .unset .unset .unset .unset .unset) [(.int ((((p2.toUInt32 >>> ((8 : Int32) &&& 31).toUInt32).toInt32) &&& (255 : Int32)).toUInt32.toUInt16.toUInt32.toInt32))])) _
    refine st9 _ ?_
    show Steps _ _ _ (T9.setTop (mkF m 41 (own_P p1 p2 p3 p4 q5 q6 (.val (.int (p1 &&& (3 : Int32)))) (.val (.ref sI)) (.val (.ref s0)) .unset .unset .unset .unset .unset .unset) [(.ref s1)])) _
    refine XS.astore X9.here hx rfl (hb hby at_41) rfl rfl (l' := (own_P p1 p2 p3 p4 q5 q6 (.val (.int (p1 &&& (3 : Int32)))) (.val (.ref sI)) (.val (.ref s0)) (.val (.ref s1)) .unset .unset .unset .unset .unset)) rfl ?_
    refine XS.iloadN X9.here hx rfl (hb hby at_43) rfl ?_
    refine XS.bipush X9.here hx rfl (hb hby at_44) ?_
    refine XS.iushr X9.here hx rfl (hb hby at_46) rfl ?_
    show Steps _ _ _ (T9.setTop (mkF m 47 (own_P p1 p2 p3 p4 q5 q6 (.val (.int (p1 &&& (3 : Int32)))) (.val (.ref sI)) (.val (.ref s0)) (.val (.ref s1)) .unset .unset .unset .unset .unset) [(.int ((p2.toUInt32 >>> ((16 : Int32) &&& 31).toUInt32).toInt32))])) _
    refine XS.sipush X9.here hx rfl (hb hby at_47) ?_
    refine XS.iand X9.here hx rfl (hb hby at_50) rfl ?_
    refine XS.i2c X9.here hx rfl (hb hby at_51) rfl ?_
    show Steps _ _ _ (T9.setTop (mkF m 52 (own_P p1 p2 p3 p4 q5 q6 (.val (.int (p1 &&& (3 : Int32)))) (.val (.ref sI)) (.val (.ref s0)) (.val (.ref s1)) .unset .unset .unset .unset .unset) [(.int ((((p2.toUInt32 >>> ((16 : Int32) &&& 31).toUInt32).toInt32) &&& (255 : Int32)).toUInt32.toUInt16.toUInt32.toInt32))])) _
    refine st10 _ ?_
    show Steps _ _ _ (T10.setTop (mkF m 55 (own_P p1 p2 p3 p4 q5 q6 (.val (.int (p1 &&& (3 : Int32)))) (.val (.ref sI)) (.val (.ref s0)) (.val (.ref s1)) .unset .unset .unset .unset .unset) [(.ref s2)])) _
    refine XS.astore X10.here hx rfl (hb hby at_55) rfl rfl (l' := (own_P p1 p2 p3 p4 q5 q6 (.val (.int (p1 &&& (3 : Int32)))) (.val (.ref sI)) (.val (.ref s0)) (.val (.ref s1)) (.val (.ref s2)) .unset .unset .unset .unset)) rfl ?_
    refine XS.iloadN X10.here hx rfl (hb hby at_57) rfl ?_
    refine XS.bipush X10.here hx rfl (hb hby at_58) ?_
    refine XS.iushr X10.here hx rfl (hb hby at_60) rfl ?_
    show Steps _ _ _ (T10.setTop (mkF m 61 (own_P p1 p2 p3 p4 q5 q6 (.val (.int (p1 &&& (3 : Int32)))) (.val (.ref sI)) (.val (.ref s0)) (.val (.ref s1)) (.val (.ref s2)) .unset .unset .unset .unset) [(.int ((p2.toUInt32 >>> ((24 : Int32) &&& 31).toUInt32).toInt32))])) _
    refine XS.sipush X10.here hx rfl (hb hby at_61) ?_
    refine XS.iand X10.here hx rfl (hb hby at_64) rfl ?_
    refine XS.i2c X10.here hx rfl (hb hby at_65) rfl ?_
    show Steps _ _ _ (T10.setTop (mkF m 66 (own_P p1 p2 p3 p4 q5 q6 (.val (.int (p1 &&& (3 : Int32)))) (.val (.ref sI)) (.val (.ref s0)) (.val (.ref s1)) (.val (.ref s2)) .unset .unset .unset .unset) [(.int ((((p2.toUInt32 >>> ((24 : Int32) &&& 31).toUInt32).toInt32) &&& (255 : Int32)).toUInt32.toUInt16.toUInt32.toInt32))])) _
    refine st11 _ ?_
    show Steps _ _ _ (T11.setTop (mkF m 69 (own_P p1 p2 p3 p4 q5 q6 (.val (.int (p1 &&& (3 : Int32)))) (.val (.ref sI)) (.val (.ref s0)) (.val (.ref s1)) (.val (.ref s2)) .unset .unset .unset .unset) [(.ref s3)])) _
    refine XS.astore X11.here hx rfl (hb hby at_69) rfl rfl (l' := (own_P p1 p2 p3 p4 q5 q6 (.val (.int (p1 &&& (3 : Int32)))) (.val (.ref sI)) (.val (.ref s0)) (.val (.ref s1)) (.val (.ref s2)) (.val (.ref s3)) .unset .unset .unset)) rfl ?_
    show Steps _ _ _ (T11.setTop (mkF m 71 (own_P p1 p2 p3 p4 q5 q6 (.val (.int (p1 &&& (3 : Int32)))) (.val (.ref sI)) (.val (.ref s0)) (.val (.ref s1)) (.val (.ref s2)) (.val (.ref s3)) .unset .unset .unset) [])) _
    refine st12 _ ?_
    show Steps _ _ _ (T12.setTop (mkF m 74 (own_P p1 p2 p3 p4 q5 q6 (.val (.int (p1 &&& (3 : Int32)))) (.val (.ref sI)) (.val (.ref s0)) (.val (.ref s1)) (.val (.ref s2)) (.val (.ref s3)) .unset .unset .unset) [(.ref b12)])) _
    refine XS.dup X12.here hx rfl (hb hby at_74) rfl rfl ?_
    show Steps _ _ _ (T12.setTop (mkF m 75 (own_P p1 p2 p3 p4 q5 q6 (.val (.int (p1 &&& (3 : Int32)))) (.val (.ref sI)) (.val (.ref s0)) (.val (.ref s1)) (.val (.ref s2)) (.val (.ref s3)) .unset .unset .unset) [(.ref b12), (.ref b12)])) _
    refine st13.trans ?_
    show Steps _ _ _ (T13.setTop (mkF m 78 (own_P p1 p2 p3 p4 q5 q6 (.val (.int (p1 &&& (3 : Int32)))) (.val (.ref sI)) (.val (.ref s0)) (.val (.ref s1)) (.val (.ref s2)) (.val (.ref s3)) .unset .unset .unset) [(.ref b12)])) _
    refine XS.astore X13.here hx rfl (hb hby at_78) rfl rfl (l' := (own_P p1 p2 p3 p4 q5 q6 (.val (.int (p1 &&& (3 : Int32)))) (.val (.ref sI)) (.val (.ref s0)) (.val (.ref s1)) (.val (.ref s2)) (.val (.ref s3)) (.val (.ref b12)) .unset .unset)) rfl ?_
    refine XS.iload X13.here hx rfl (hb hby at_80) rfl ?_
    refine XS.ifYes X13.here hx rfl (pc0 := 82) (pc' := 108) rfl (hb hby at_82) rfl ((if0 _ _).trans (flt hc82).2.2.2) (by decide) (by decide) ?_
    refine XS.iload X13.here hx rfl (hb hby at_108) rfl ?_
    show Steps _ _ _ (T13.setTop (mkF m 110 (own_P p1 p2 p3 p4 q5 q6 (.val (.int (p1 &&& (3 : Int32)))) (.val (.ref sI)) (.val (.ref s0)) (.val (.ref s1)) (.val (.ref s2)) (.val (.ref s3)) (.val (.ref b12)) .unset .unset) [(.int (p1 &&& (3 : Int32)))])) _
    refine XS.iconst X13.here hx rfl (hb hby at_110) ?_
    refine XS.icmpYes X13.here hx rfl (pc0 := 111) (pc' := 137) rfl (hb hby at_111) rfl (flt hc111).2.2.2 (by decide) (by decide) ?_
    refine XS.iload X13.here hx rfl (hb hby at_137) rfl ?_
    refine XS.iconst X13.here hx rfl (hb hby at_139) ?_
    show Steps _ _ _ (T13.setTop (mkF m 140 (own_P p1 p2 p3 p4 q5 q6 (.val (.int (p1 &&& (3 : Int32)))) (.val (.ref sI)) (.val (.ref s0)) (.val (.ref s1)) (.val (.ref s2)) (.val (.ref s3)) (.val (.ref b12)) .unset .unset) [(.int (2 : Int32)), (.int (p1 &&& (3 : Int32)))])) _
    refine XS.icmpYes X13.here hx rfl (pc0 := 140) (pc' := 166) rfl (hb hby at_140) rfl (flt hc140).2.2.2 (by decide) (by decide) ?_
    show Steps _ _ _ (T13.setTop (mkF m 166 (own_P p1 p2 p3 p4 q5 q6 (.val (.int (p1 &&& (3 : Int32)))) (.val (.ref sI)) (.val (.ref s0)) (.val (.ref s1)) (.val (.ref s2)) (.val (.ref s3)) (.val (.ref b12)) .unset .unset) [])) _
    refine st14 _ ?_
    show Steps _ _ _ (T14.setTop (mkF m 169 (own_P p1 p2 p3 p4 q5 q6 (.val (.int (p1 &&& (3 : Int32)))) (.val (.ref sI)) (.val (.ref s0)) (.val (.ref s1)) (.val (.ref s2)) (.val (.ref s3)) (.val (.ref b12)) .unset .unset) [(.ref b14)])) _
    refine XS.dup X14.here hx rfl (hb hby at_169) rfl rfl ?_
    show Steps _ _ _ (T14.setTop (mkF m 170 (own_P p1 p2 p3 p4 q5 q6 (.val (.int (p1 &&& (3 : Int32)))) (.val (.ref sI)) (.val (.ref s0)) (.val (.ref s1)) (.val (.ref s2)) (.val (.ref s3)) (.val (.ref b12)) .unset .unset) [(.ref b14), (.ref b14)])) _
    refine st15.trans ?_
    show Steps _ _ _ (T15.setTop (mkF m 173 (own_P p1 p2 p3 p4 q5 q6 (.val (.int (p1 &&& (3 : Int32)))) (.val (.ref sI)) (.val (.ref s0)) (.val (.ref s1)) (.val (.ref s2)) (.val (.ref s3)) (.val (.ref b12)) .unset .unset) [(.ref b14)])) _
    refine XS.astore X15.here hx rfl (hb hby at_173) rfl rfl (l' := (own_P p1 p2 p3 p4 q5 q6 (.val (.int (p1 &&& (3 : Int32)))) (.val (.ref sI)) (.val (.ref s0)) (.val (.ref s1)) (.val (.ref s2)) (.val (.ref s3)) (.val (.ref b12)) (.val (.ref b14)) .unset)) rfl ?_
    refine XS.aload X15.here hx rfl (hb hby at_175) rfl rfl ?_
    refine XS.lload X15.here hx rfl (hb hby at_177) rfl ?_
    show Steps _ _ _ (T15.setTop (mkF m 179 (own_P p1 p2 p3 p4 q5 q6 (.val (.int (p1 &&& (3 : Int32)))) (.val (.ref sI)) (.val (.ref s0)) (.val (.ref s1)) (.val (.ref s2)) (.val (.ref s3)) (.val (.ref b12)) (.val (.ref b14)) .unset) [(.long q5), (.ref b14)])) _
    refine st16 _ ?_
    show Steps _ _ _ (T16.setTop (mkF m 182 (own_P p1 p2 p3 p4 q5 q6 (.val (.int (p1 &&& (3 : Int32)))) (.val (.ref sI)) (.val (.ref s0)) (.val (.ref s1)) (.val (.ref s2)) (.val (.ref s3)) (.val (.ref b12)) (.val (.ref b14)) .unset) [(.ref bV), (.ref b14)])) _
    refine st17.trans ?_
    show Steps _ _ _ (T17.setTop (mkF m 187 (own_P p1 p2 p3 p4 q5 q6 (.val (.int (p1 &&& (3 : Int32)))) (.val (.ref sI)) (.val (.ref s0)) (.val (.ref s1)) (.val (.ref s2)) (.val (.ref s3)) (.val (.ref b12)) (.val (.ref b14)) .unset) [(.int (1 : Int32))])) _
    refine XS.pop X17.here hx rfl (hb hby at_187) rfl rfl ?_
    show Steps _ _ _ (T17.setTop (mkF m 188 (own_P p1 p2 p3 p4 q5 q6 (.val (.int (p1 &&& (3 : Int32)))) (.val (.ref sI)) (.val (.ref s0)) (.val (.ref s1)) (.val (.ref s2)) (.val (.ref s3)) (.val (.ref b12)) (.val (.ref b14)) .unset) [])) _
    refine st18 _ ?_
    show Steps _ _ _ (T18.setTop (mkF m 191 (own_P p1 p2 p3 p4 q5 q6 (.val (.int (p1 &&& (3 : Int32)))) (.val (.ref sI)) (.val (.ref s0)) (.val (.ref s1)) (.val (.ref s2)) (.val (.ref s3)) (.val (.ref b12)) (.val (.ref b14)) .unset) [(.ref b18)])) _
    refine XS.dup X18.here hx rfl (hb hby at_191) rfl rfl ?_
    show Steps _ _ _ (T18.setTop (mkF m 192 (own_P p1 p2 p3 p4 q5 q6 (.val (.int (p1 &&& (3 : Int32)))) (.val (.ref sI)) (.val (.ref s0)) (.val (.ref s1)) (.val (.ref s2)) (.val (.ref s3)) (.val (.ref b12)) (.val (.ref b14)) .unset) [(.ref b18), (.ref b18)])) _
    refine st19 _ ?_
    show Steps _ _ _ (T19.setTop (mkF m 195 (own_P p1 p2 p3 p4 q5 q6 (.val (.int (p1 &&& (3 : Int32)))) (.val (.ref sI)) (.val (.ref s0)) (.val (.ref s1)) (.val (.ref s2)) (.val (.ref s3)) (.val (.ref b12)) (.val (.ref b14)) .unset) [(.ref b19), (.ref b18), (.ref b18)])) _
    refine XS.dup X19.here hx rfl (hb hby at_195) rfl rfl ?_
    refine XS.aload X19.here hx rfl (hb hby at_196) rfl rfl ?_
    refine XS.aload X19.here hx rfl (hb hby at_198) rfl rfl ?_
    show Steps _ _ _ (T19.setTop (mkF m 200 (own_P p1 p2 p3 p4 q5 q6 (.val (.int (p1 &&& (3 : Int32)))) (.val (.ref sI)) (.val (.ref s0)) (.val (.ref s1)) (.val (.ref s2)) (.val (.ref s3)) (.val (.ref b12)) (.val (.ref b14)) .unset) [(.ref b12), (.ref sI), (.ref b19), (.ref b19), (.ref b18), (.ref b18)])) _
    refine st20.trans ?_
    show Steps _ _ _ (T20.setTop (mkF m 203 (own_P p1 p2 p3 p4 q5 q6 (.val (.int (p1 &&& (3 : Int32)))) (.val (.ref sI)) (.val (.ref s0)) (.val (.ref s1)) (.val (.ref s2)) (.val (.ref s3)) (.val (.ref b12)) (.val (.ref b14)) .unset) [(.ref b19), (.ref b18), (.ref b18)])) _
    refine XS.iloadN X20.here hx rfl (hb hby at_203) rfl ?_
    refine XS.iloadN X20.here hx rfl (hb hby at_204) rfl ?_
    refine XS.lload X20.here hx rfl (hb hby at_205) rfl ?_
    refine XS.lload X20.here hx rfl (hb hby at_207) rfl ?_
    show Steps _ _ _ (T20.setTop (mkF m 209 (own_P p1 p2 p3 p4 q5 q6 (.val (.int (p1 &&& (3 : Int32)))) (.val (.ref sI)) (.val (.ref s0)) (.val (.ref s1)) (.val (.ref s2)) (.val (.ref s3)) (.val (.ref b12)) (.val (.ref b14)) .unset) [(.long q6), (.long q5), (.int p4), (.int p3), (.ref b19), (.ref b18), (.ref b18)])) _
    refine XS.aload X20.here hx rfl (hb hby at_209) rfl rfl ?_
    refine XS.aconstNull X20.here hx rfl (hb hby at_211) ?_
    refine XS.aconstNull X20.here hx rfl (hb hby at_212) ?_
    show Steps _ _ _ (T20.setTop (mkF m 213 (own_P p1 p2 p3 p4 q5 q6 (.val (.int (p1 &&& (3 : Int32)))) (.val (.ref sI)) (.val (.ref s0)) (.val (.ref s1)) (.val (.ref s2)) (.val (.ref s3)) (.val (.ref b12)) (.val (.ref b14)) .unset) [.null, .null, (.ref b14), (.long q6), (.long q5), (.int p4), (.int p3), (.ref b19), (.ref b18), (.ref b18)])) _
    refine st21 _ ?_
    show Steps _ _ _ (T21.setTop (mkF m 216 (own_P p1 p2 p3 p4 q5 q6 (.val (.int (p1 &&& (3 : Int32)))) (.val (.ref sI)) (.val (.ref s0)) (.val (.ref s1)) (.val (.ref s2)) (.val (.ref s3)) (.val (.ref b12)) (.val (.ref b14)) .unset) [(.ref b21), .null, .null, (.ref b14), (.long q6), (.long q5), (.int p4), (.int p3), (.ref b19), (.ref b18), (.ref b18)])) _
    refine XS.dup X21.here hx rfl (hb hby at_216) rfl rfl ?_
    show Steps _ _ _ (T21.setTop (mkF m 217 (own_P p1 p2 p3 p4 q5 q6 (.val (.int (p1 &&& (3 : Int32)))) (.val (.ref sI)) (.val (.ref s0)) (.val (.ref s1)) (.val (.ref s2)) (.val (.ref s3)) (.val (.ref b12)) (.val (.ref b14)) .unset) [(.ref b21), (.ref b21), .null, .null, (.ref b14), (.long q6), (.long q5), (.int p4), (.int p3), (.ref b19), (.ref b18), (.ref b18)])) _
    refine st22.trans ?_
    show Steps _ _ _ (T22.setTop (mkF m 220 (own_P p1 p2 p3 p4 q5 q6 (.val (.int (p1 &&& (3 : Int32)))) (.val (.ref sI)) (.val (.ref s0)) (.val (.ref s1)) (.val (.ref s2)) (.val (.ref s3)) (.val (.ref b12)) (.val (.ref b14)) .unset) [(.ref b21), .null, .null, (.ref b14), (.long q6), (.long q5), (.int p4), (.int p3), (.ref b19), (.ref b18), (.ref b18)])) _
    refine st23.trans ?_
    show Steps _ _ _ (T23.setTop (mkF m 223 (own_P p1 p2 p3 p4 q5 q6 (.val (.int (p1 &&& (3 : Int32)))) (.val (.ref sI)) (.val (.ref s0)) (.val (.ref s1)) (.val (.ref s2)) (.val (.ref s3)) (.val (.ref b12)) (.val (.ref b14)) .unset) [(.ref b18)])) _
    refine XS.astore X23.here hx rfl (hb hby at_223) rfl rfl (l' := (own_P p1 p2 p3 p4 q5 q6 (.val (.int (p1 &&& (3 : Int32)))) (.val (.ref sI)) (.val (.ref s0)) (.val (.ref s1)) (.val (.ref s2)) (.val (.ref s3)) (.val (.ref b12)) (.val (.ref b14)) (.val (.ref b18)))) rfl ?_
    refine XS.aload X23.here hx rfl (hb hby at_225) rfl rfl ?_
    show Steps _ _ _ (T23.setTop (mkF m 227 (own_P p1 p2 p3 p4 q5 q6 (.val (.int (p1 &&& (3 : Int32)))) (.val (.ref sI)) (.val (.ref s0)) (.val (.ref s1)) (.val (.ref s2)) (.val (.ref s3)) (.val (.ref b12)) (.val (.ref b14)) (.val (.ref b18))) [(.ref b18)])) _
    refine st24.trans ?_
    show Steps _ _ _ (T24.setTop (mkF m 230 (own_P p1 p2 p3 p4 q5 q6 (.val (.int (p1 &&& (3 : Int32)))) (.val (.ref sI)) (.val (.ref s0)) (.val (.ref s1)) (.val (.ref s2)) (.val (.ref s3)) (.val (.ref b12)) (.val (.ref b14)) (.val (.ref b18))) [(.int (0 : Int32))])) _
    refine XS.iload X24.here hx rfl (hb hby at_230) rfl ?_
    refine XS.icmpNo X24.here hx rfl (hb hby at_232) rfl (teq hc232).2 ?_
    refine XS.iconst X24.here hx rfl (hb hby at_235) ?_
    refine XS.goto X24.here hx rfl (pc0 := 236) (pc' := 240) rfl (hb hby at_236) (by decide) (by decide) ?_
    show Steps _ _ _ (T24.setTop (mkF m 240 (own_P p1 p2 p3 p4 q5 q6 (.val (.int (p1 &&& (3 : Int32)))) (.val (.ref sI)) (.val (.ref s0)) (.val (.ref s1)) (.val (.ref s2)) (.val (.ref s3)) (.val (.ref b12)) (.val (.ref b14)) (.val (.ref b18))) [(.int (1 : Int32))])) _
    exact retN X24 hx (t := .boolean) Bd.returns (by simp) (hb hby at_240) hr
  · show Q_law0 Z p1 p2 p3 p4 q5 q6 cs wD wM wL wE0 wO aM cD cE0 h0 n0 _ T24.heap _
    rw [K24]
    exact ⟨rfl, N24⟩
theorem pd_0_29 : parseMethodDescriptor "(Ljava/lang/String;Ljava/lang/String;Ljava/lang/String;Ljava/lang/String;)V" = some ⟨[(.object "java/lang/String"), (.object "java/lang/String"), (.object "java/lang/String"), (.object "java/lang/String")], none⟩ := by decide +kernel
def Q_law1 (Z : State) (p1 : Int32) (p2 : Int32) (p3 : Int32) (p4 : Int32) (q5 : Int64) (q6 : Int64) (cs : Int32) (wD : Addr) (wM : Addr) (wL : Addr) (wE0 : Addr) (wO : Addr) (aM : Addr) (cD : Cell) (cE0 : Cell) (h0 : Heap) (n0 : Nat) (v : Option Value) (h : Heap) (L : List Loc) : Prop := v = some (.int (1 : Int32)) ∧ Fr n0 L
theorem rm_law1 (l : Launch) (Z : State) (a0 : Array Value) (hw : ∀ d ∈ tables_1, d.before a0 Z = true) (ws : List Jvm.Cond) (p1 : Int32) (p2 : Int32) (p3 : Int32) (p4 : Int32) (q5 : Int64) (q6 : Int64) (cs : Int32) (wD : Addr) (wM : Addr) (wL : Addr) (wE0 : Addr) (wO : Addr) (aM : Addr) (cD : Cell) (cE0 : Cell) (h0 : Heap) (n0 : Nat) (Z0 : n0 ≤ h0.size) (Ol : Old Z n0 h0) (S_CS : Sta Z Z.heap "java/lang/String" "COMPACT_STRINGS" "Z" (.int cs)) (hcs : ¬ (cs = (0 : Int32))) (S_DC : Sta Z Z.heap "java/util/ArrayList" "DEFAULTCAPACITY_EMPTY_ELEMENTDATA" "[Ljava/lang/Object;" (.ref wD)) (A_D : Arr Z Z.heap wD cD (.object "java/lang/Object")) (hszD : cD.slots.size = (0 : Int32).toNatClampNeg) (S_EMPTY_MAP : Sta Z Z.heap "java/util/ImmutableCollections" "EMPTY_MAP" "Ljava/util/ImmutableCollections$MapN;" (.ref wM)) (E_M : Exa Z Z.heap wM "java/util/ImmutableCollections$MapN") (F_M : Fld Z Z.heap wM "java/util/ImmutableCollections$MapN" "size" "I" (.int (0 : Int32))) (S_EMPTY_LIST : Sta Z Z.heap "java/util/ImmutableCollections" "EMPTY_LIST" "Ljava/util/ImmutableCollections$ListN;" (.ref wL)) (E_L : Exa Z Z.heap wL "java/util/ImmutableCollections$ListN") (F_L : Fld Z Z.heap wL "java/util/ImmutableCollections$ListN" "elements" "[Ljava/lang/Object;" (.ref wE0)) (A_L : Arr Z Z.heap wE0 cE0 (.object "java/lang/Object")) (hszL : cE0.slots.size = (0 : Int32).toNatClampNeg) (S_EMPTY : Sta Z Z.heap "java/util/ImmutableCollections" "EMPTY" "Ljava/lang/Object;" (.ref wO)) (E_O : Exa Z Z.heap wO "java/lang/Object") (Mr : own_mir Z "[Ljava/lang/Object;" aM) (HL : ∀ (h0 : Heap), n0 ≤ h0.size → Old Z n0 h0 → MetFree l own_y1 (head1 (Jvm.Cond.code own_y1 jdk_35_method_24_code 3 (some (.object "java/lang/Long")) :: []) own_r1) (fun a U => a = #[(.long q5)] ∧ Z.Warmed39 U.vm ∧ U.heap = h0) (fun _ _ _ _ _ => True) (fun _ U o U' => ∃ v L, o = .returned v ∧ Q_lv Z h0 n0 v U'.heap L ∧ FrameEnd  U o U' L own_r1.cells own_r1.slots)) (hc82 : (0 : Int32) < (p1 &&& (3 : Int32))) (hc111 : ¬ ((1 : Int32) < (p1 &&& (3 : Int32)))) (hc140 : ¬ ((2 : Int32) < (p1 &&& (3 : Int32)))) (hc232 : (1 : Int32) = (p1 &&& (3 : Int32))) :
    MetFree l x (head1 (Jvm.Cond.code x code maxLocals ret :: ws) room_1) (fun a U => a = #[(.int p1), (.int p2), (.int p3), (.int p4), (.long q5), (.long q6)] ∧ Z.Warmed39 U.vm ∧ U.heap = h0) (fun _ _ _ _ _ => True) (fun _ U o U' => ∃ v L, o = .returned v ∧ Q_law1 Z p1 p2 p3 p4 q5 q6 cs wD wM wL wE0 wO aM cD cE0 h0 n0 v U'.heap L ∧ ReturnedEndW U o U' L room_1.cells room_1.slots) := by
  refine MetFree.of_bodySF (plainFor_of_name pn_0) hisR ?_
  intro p e s m args below meth c s₁ Bd hml0 hP hK
  obtain ⟨rfl, hZ, hh⟩ := hP
  have hx := Bd.exec
  have hby := Bd.bytes
  have hml : c.maxLocals = 17 := hml0
  have hown : s.vm.findClass "com/example/arcrover/arcrover/ExplorationTransitionsPinLaw" = some m.cls := findClass_of_methodNamed Bd.named
  have hnm := (name_of_methodNamed Bd.named Bd.method).1
  have X0 : Stand p l e room_1 (s.setVm s.vm) m #[(.int p1), (.int p2), (.int p3), (.int p4), (.long q5), (.long q6)] below meth c s₁ [] 0 0 := Stand.of_body Bd
  have hS : s.Since s.vm s.heap.size := (State.WarmedH.refl s).since s.heap.size
  have hk : s.heap.size ≤ h0.size := Nat.le_of_eq (congrArg Array.size hh)
  have e0 : s₁.heap = h0 := by rw [← hh, Bd.state]; rfl
  have N0 := Fr.nil n0
  have pre0 : ∀ t, Steps p.tables e below (s₁.setTop (mkF m 0 (own_P p1 p2 p3 p4 q5 q6 .unset .unset .unset .unset .unset .unset .unset .unset .unset) [])) t → Steps p.tables e below (s₁.setTop (entryFrame m #[(.int p1), (.int p2), (.int p3), (.int p4), (.long q5), (.long q6)] maxLocals)) t := fun t k => castTop (ef_0 m p1 p2 p3 p4 q5 q6) k
  obtain ⟨_, _, ⟨T7, L7, k7, n7⟩, -, X7, ⟨Lc7, hQ7, l7, y7, z7⟩, st7⟩ := Jvm.LawKit.callS X0 hx (y := own_y0) hown (mvT hZ (own_w hw 0 rfl)) (mvT hZ (own_w hw 1 rfl)) (mvT hZ (own_w hw 2 rfl)) (mvT hZ (own_w hw 3 rfl)) (by decide) (backOf (W := 0) (rm_vof l Z a0 hw [] ((((p1.toUInt32 >>> ((2 : Int32) &&& 31).toUInt32).toInt32) &&& (255 : Int32)).toUInt32.toUInt16.toUInt32.toInt32) cs h0 n0 Z0 Ol S_CS (own_c255 _) hcs) hZ (own_w hw 3 rfl) (own_w hw 2 rfl) (by decide) (by decide)) (g := (mkF m 13 (own_P p1 p2 p3 p4 q5 q6 (.val (.int (p1 &&& (3 : Int32)))) .unset .unset .unset .unset .unset .unset .unset .unset) [(.int ((((p1.toUInt32 >>> ((2 : Int32) &&& 31).toUInt32).toInt32) &&& (255 : Int32)).toUInt32.toUInt16.toUInt32.toInt32))])) rfl (by rw [hml]; rfl) (argsL := [(.int ((((p1.toUInt32 >>> ((2 : Int32) &&& 31).toUInt32).toInt32) &&& (255 : Int32)).toUInt32.toUInt16.toUInt32.toInt32))]) (rest := []) (lenOf pd_0_0 rfl) rfl (Nat.le_of_eq rfl) (hb hby at_13) (fun _ _ => ⟨rfl, e0, (by decide : 0 + 2 ≤ _), (by decide : 0 + 5 ≤ _)⟩)
  dsimp only [Pt.U, Pt.locs, Pt.cells, Pt.slots] at X7 l7 y7 z7 st7 hQ7
  subst l7 y7 z7
  obtain ⟨sI, rfl, N7q, Ex7⟩ := hQ7
  have N7 := Fr.app N0 N7q
  have Kc7 : Keep h0 T7.heap [] := (Keep.refl h0 []).ext Ex7
  have Ol := (Ol.ext Ex7)
  have Z0 : n0 ≤ _ := (Nat.le_trans Z0 Ex7.1)
  obtain ⟨_, _, ⟨T8, L8, k8, n8⟩, -, X8, ⟨Lc8, hQ8, l8, y8, z8⟩, st8⟩ := Jvm.LawKit.callS X7 hx (y := own_y0) hown (mvT hZ (own_w hw 0 rfl)) (mvT hZ (own_w hw 1 rfl)) (mvT hZ (own_w hw 2 rfl)) (mvT hZ (own_w hw 3 rfl)) (by decide) (backOf (W := 0) (rm_vof l Z a0 hw [] ((p2 &&& (255 : Int32)).toUInt32.toUInt16.toUInt32.toInt32) cs T7.heap n0 Z0 Ol S_CS (own_c255 _) hcs) hZ (own_w hw 3 rfl) (own_w hw 2 rfl) (by decide) (by decide)) (g := (mkF m 24 (own_P p1 p2 p3 p4 q5 q6 (.val (.int (p1 &&& (3 : Int32)))) (.val (.ref sI)) .unset .unset .unset .unset .unset .unset .unset) [(.int ((p2 &&& (255 : Int32)).toUInt32.toUInt16.toUInt32.toInt32))])) rfl (by rw [hml]; rfl) (argsL := [(.int ((p2 &&& (255 : Int32)).toUInt32.toUInt16.toUInt32.toInt32))]) (rest := []) (lenOf pd_0_0 rfl) rfl (Nat.le_of_eq rfl) (hb hby at_24) (fun _ _ => ⟨rfl, rfl, (by decide : 2 + 2 ≤ _), (by decide : 5 + 5 ≤ _)⟩)
  dsimp only [Pt.U, Pt.locs, Pt.cells, Pt.slots] at X8 l8 y8 z8 st8 hQ8
  subst l8 y8 z8
  obtain ⟨s0, rfl, N8q, Ex8⟩ := hQ8
  have N8 := Fr.app N7 N8q
  have Kc8 : Keep h0 T8.heap [] := Kc7.ext Ex8
  have Ol := (Ol.ext Ex8)
  have Z0 : n0 ≤ _ := (Nat.le_trans Z0 Ex8.1)
  obtain ⟨_, _, ⟨T9, L9, k9, n9⟩, -, X9, ⟨Lc9, hQ9, l9, y9, z9⟩, st9⟩ := Jvm.LawKit.callS X8 hx (y := own_y0) hown (mvT hZ (own_w hw 0 rfl)) (mvT hZ (own_w hw 1 rfl)) (mvT hZ (own_w hw 2 rfl)) (mvT hZ (own_w hw 3 rfl)) (by decide) (backOf (W := 0) (rm_vof l Z a0 hw [] ((((p2.toUInt32 >>> ((8 : Int32) &&& 31).toUInt32).toInt32) &&& (255 : Int32)).toUInt32.toUInt16.toUInt32.toInt32) cs T8.heap n0 Z0 Ol S_CS (own_c255 _) hcs) hZ (own_w hw 3 rfl) (own_w hw 2 rfl) (by decide) (by decide)) (g := (mkF m 38 (own_P p1 p2 p3 p4 q5 q6 (.val (.int (p1 &&& (3 : Int32)))) (.val (.ref sI)) (.val (.ref s0)) .unset .unset .unset .unset .unset .unset) [(.int ((((p2.toUInt32 >>> ((8 : Int32) &&& 31).toUInt32).toInt32) &&& (255 : Int32)).toUInt32.toUInt16.toUInt32.toInt32))])) rfl (by rw [hml]; rfl) (argsL := [(.int ((((p2.toUInt32 >>> ((8 : Int32) &&& 31).toUInt32).toInt32) &&& (255 : Int32)).toUInt32.toUInt16.toUInt32.toInt32))]) (rest := []) (lenOf pd_0_0 rfl) rfl (Nat.le_of_eq rfl) (hb hby at_38) (fun _ _ => ⟨rfl, rfl, (by decide : 4 + 2 ≤ _), (by decide : 10 + 5 ≤ _)⟩)
  dsimp only [Pt.U, Pt.locs, Pt.cells, Pt.slots] at X9 l9 y9 z9 st9 hQ9
  subst l9 y9 z9
  obtain ⟨s1, rfl, N9q, Ex9⟩ := hQ9
  have N9 := Fr.app N8 N9q
  have Kc9 : Keep h0 T9.heap [] := Kc8.ext Ex9
  have Ol := (Ol.ext Ex9)
  have Z0 : n0 ≤ _ := (Nat.le_trans Z0 Ex9.1)
  obtain ⟨_, _, ⟨T10, L10, k10, n10⟩, -, X10, ⟨Lc10, hQ10, l10, y10, z10⟩, st10⟩ := Jvm.LawKit.callS X9 hx (y := own_y0) hown (mvT hZ (own_w hw 0 rfl)) (mvT hZ (own_w hw 1 rfl)) (mvT hZ (own_w hw 2 rfl)) (mvT hZ (own_w hw 3 rfl)) (by decide) (backOf (W := 0) (rm_vof l Z a0 hw [] ((((p2.toUInt32 >>> ((16 : Int32) &&& 31).toUInt32).toInt32) &&& (255 : Int32)).toUInt32.toUInt16.toUInt32.toInt32) cs T9.heap n0 Z0 Ol S_CS (own_c255 _) hcs) hZ (own_w hw 3 rfl) (own_w hw 2 rfl) (by decide) (by decide)) (g := (mkF m 52 (own_P p1 p2 p3 p4 q5 q6 (.val (.int (p1 &&& (3 : Int32)))) (.val (.ref sI)) (.val (.ref s0)) (.val (.ref s1)) .unset .unset .unset .unset .unset) [(.int ((((p2.toUInt32 >>> ((16 : Int32) &&& 31).toUInt32).toInt32) &&& (255 : Int32)).toUInt32.toUInt16.toUInt32.toInt32))])) rfl (by rw [hml]; rfl) (argsL := [(.int ((((p2.toUInt32 >>> ((16 : Int32) &&& 31).toUInt32).toInt32) &&& (255 : Int32)).toUInt32.toUInt16.toUInt32.toInt32))]) (rest := []) (lenOf pd_0_0 rfl) rfl (Nat.le_of_eq rfl) (hb hby at_52) (fun _ _ => ⟨rfl, rfl, (by decide : 6 + 2 ≤ _), (by decide : 15 + 5 ≤ _)⟩)
  dsimp only [Pt.U, Pt.locs, Pt.cells, Pt.slots] at X10 l10 y10 z10 st10 hQ10
  subst l10 y10 z10
  obtain ⟨s2, rfl, N10q, Ex10⟩ := hQ10
  have N10 := Fr.app N9 N10q
  have Kc10 : Keep h0 T10.heap [] := Kc9.ext Ex10
  have Ol := (Ol.ext Ex10)
  have Z0 : n0 ≤ _ := (Nat.le_trans Z0 Ex10.1)
  obtain ⟨_, _, ⟨T11, L11, k11, n11⟩, -, X11, ⟨Lc11, hQ11, l11, y11, z11⟩, st11⟩ := Jvm.LawKit.callS X10 hx (y := own_y0) hown (mvT hZ (own_w hw 0 rfl)) (mvT hZ (own_w hw 1 rfl)) (mvT hZ (own_w hw 2 rfl)) (mvT hZ (own_w hw 3 rfl)) (by decide) (backOf (W := 0) (rm_vof l Z a0 hw [] ((((p2.toUInt32 >>> ((24 : Int32) &&& 31).toUInt32).toInt32) &&& (255 : Int32)).toUInt32.toUInt16.toUInt32.toInt32) cs T10.heap n0 Z0 Ol S_CS (own_c255 _) hcs) hZ (own_w hw 3 rfl) (own_w hw 2 rfl) (by decide) (by decide)) (g := (mkF m 66 (own_P p1 p2 p3 p4 q5 q6 (.val (.int (p1 &&& (3 : Int32)))) (.val (.ref sI)) (.val (.ref s0)) (.val (.ref s1)) (.val (.ref s2)) .unset .unset .unset .unset) [(.int ((((p2.toUInt32 >>> ((24 : Int32) &&& 31).toUInt32).toInt32) &&& (255 : Int32)).toUInt32.toUInt16.toUInt32.toInt32))])) rfl (by rw [hml]; rfl) (argsL := [(.int ((((p2.toUInt32 >>> ((24 : Int32) &&& 31).toUInt32).toInt32) &&& (255 : Int32)).toUInt32.toUInt16.toUInt32.toInt32))]) (rest := []) (lenOf pd_0_0 rfl) rfl (Nat.le_of_eq rfl) (hb hby at_66) (fun _ _ => ⟨rfl, rfl, (by decide : 8 + 2 ≤ _), (by decide : 20 + 5 ≤ _)⟩)
  dsimp only [Pt.U, Pt.locs, Pt.cells, Pt.slots] at X11 l11 y11 z11 st11 hQ11
  subst l11 y11 z11
  obtain ⟨s3, rfl, N11q, Ex11⟩ := hQ11
  have N11 := Fr.app N10 N11q
  have Kc11 : Keep h0 T11.heap [] := Kc10.ext Ex11
  obtain ⟨T12, h12, X12, e12, E12, A12, D12, -, st12⟩ := newO X11 hx hZ hown (own_w hw 26 rfl) (own_w hw 27 rfl) (own_w hw 28 rfl) rfl (g := (mkF m 71 (own_P p1 p2 p3 p4 q5 q6 (.val (.int (p1 &&& (3 : Int32)))) (.val (.ref sI)) (.val (.ref s0)) (.val (.ref s1)) (.val (.ref s2)) (.val (.ref s3)) .unset .unset .unset) [])) rfl (hb hby at_71) (by decide) (by decide)
  obtain ⟨b12, g12⟩ : ∃ z, z = T11.heap.size := ⟨_, rfl⟩
  rw [← g12] at A12 D12 st12
  have F_modCount_b12 : Fld Z h12 b12 "java/util/AbstractList" "modCount" "I" (.int (0 : Int32)) := D12 (Or.inl (own_w hw 46 rfl)) (ty := .int) (by decide)
  have F_elementData_b12 : Fld Z h12 b12 "java/util/ArrayList" "elementData" "[Ljava/lang/Object;" .null := D12 (Or.inl (own_w hw 49 rfl)) (ty := (.array (.object "java/lang/Object"))) (by decide)
  have F_size_b12 : Fld Z h12 b12 "java/util/ArrayList" "size" "I" (.int (0 : Int32)) := D12 (Or.inl (own_w hw 82 rfl)) (ty := .int) (by decide)
  have E_b12 := A12
  have g_b12 : n0 ≤ b12 := Nat.le_trans (Nat.le_trans Z0 Ex11.1) (Nat.le_of_eq g12.symm)
  have sz_b12 : h0.size ≤ b12 := (Nat.le_trans Kc11.1 (Nat.le_of_eq g12.symm))
  have K12 : Keep h0 h12 [] := Kc11.ext E12
  have Ol := ((Ol.ext Ex11).ext E12)
  have Z0 : n0 ≤ _ := (Nat.le_trans (Nat.le_trans Z0 Ex11.1) E12.1)
  obtain ⟨_, _, ⟨T13, L13, k13, n13⟩, -, X13, ⟨Lc13, hQ13, l13, y13, z13⟩, st13⟩ := X12.specialBack hx (y := own_y3) rfl hown (mvT hZ (own_w hw 29 rfl)) (mvT hZ (own_w hw 30 rfl)) (mvT hZ (own_w hw 31 rfl)) (by decide) (backOf (W := 1) (rm_al l Z a0 hw [] b12 wD _ _ _ h12 n0 Z0 Ol S_DC E_b12 F_elementData_b12 F_size_b12 F_modCount_b12 g_b12) hZ (own_w hw 31 rfl) (own_w hw 28 rfl) (by decide) (by decide)) (g := (mkF m 75 (own_P p1 p2 p3 p4 q5 q6 (.val (.int (p1 &&& (3 : Int32)))) (.val (.ref sI)) (.val (.ref s0)) (.val (.ref s1)) (.val (.ref s2)) (.val (.ref s3)) .unset .unset .unset) [(.ref b12), (.ref b12)])) rfl (by rw [hml]; rfl) (Steps.refl _) (a := b12) (argsL := []) (rest := [(.ref b12)]) (lenOf pd_0_4 rfl) rfl (Nat.le_of_eq rfl) (hb hby at_75) (fun _ _ => ⟨rfl, e12, (by decide : 11 + 0 ≤ _), (by decide : 28 + 0 ≤ _)⟩)
  dsimp only [Pt.U, Pt.locs, Pt.cells, Pt.slots] at X13 l13 y13 z13 st13 hQ13
  subst l13 y13 z13
  obtain ⟨rfl, N13q, K13, El_b12, Fel_b12, Fsl_b12, Fml_b12⟩ := hQ13
  have N13 := Fr.app N11 N13q
  have Kc13 : Keep h0 T13.heap [] := K12.trans K13 (allS (Or.inr sz_b12) all0)
  obtain ⟨T14, h14, X14, e14, E14, A14, D14, -, st14⟩ := newO X13 hx hZ hown (own_w hw 292 rfl) (own_w hw 293 rfl) (own_w hw 294 rfl) rfl (g := (mkF m 87 (own_P p1 p2 p3 p4 q5 q6 (.val (.int (p1 &&& (3 : Int32)))) (.val (.ref sI)) (.val (.ref s0)) (.val (.ref s1)) (.val (.ref s2)) (.val (.ref s3)) (.val (.ref b12)) .unset .unset) [(.ref b12)])) rfl (hb hby at_87) (by decide) (by decide)
  obtain ⟨b14, g14⟩ : ∃ z, z = T13.heap.size := ⟨_, rfl⟩
  rw [← g14] at A14 D14 st14
  have F_source_b14 : Fld Z h14 b14 "com/example/arcrover/arcrover/Transition" "source" "Ljava/lang/String;" .null := D14 (Or.inr (own_w hw 305 rfl)) (ty := (.object "java/lang/String")) (by decide)
  have F_stimulus_b14 : Fld Z h14 b14 "com/example/arcrover/arcrover/Transition" "stimulus" "Ljava/lang/String;" .null := D14 (Or.inr (own_w hw 307 rfl)) (ty := (.object "java/lang/String")) (by decide)
  have F_reaction_b14 : Fld Z h14 b14 "com/example/arcrover/arcrover/Transition" "reaction" "Ljava/lang/String;" .null := D14 (Or.inr (own_w hw 309 rfl)) (ty := (.object "java/lang/String")) (by decide)
  have F_target_b14 : Fld Z h14 b14 "com/example/arcrover/arcrover/Transition" "target" "Ljava/lang/String;" .null := D14 (Or.inr (own_w hw 311 rfl)) (ty := (.object "java/lang/String")) (by decide)
  have E_b14 := A14
  have g_b14 : n0 ≤ b14 := Nat.le_trans (Nat.le_trans Z0 K13.1) (Nat.le_of_eq g14.symm)
  have sz_b14 : h0.size ≤ b14 := (Nat.le_trans Kc13.1 (Nat.le_of_eq g14.symm))
  have K14 : Keep h0 h14 [] := Kc13.ext E14
  have Z0 : n0 ≤ _ := (Nat.le_trans (Nat.le_trans Z0 K13.1) E14.1)
  obtain ⟨_, _, ⟨T15, L15, k15, n15⟩, -, X15, hSn15, hGr15, ⟨Lc15, hQ15, l15, y15, z15⟩, st15⟩ := X14.specialBackS hx (y := own_y19) rfl hown (mvT hZ (own_w hw 295 rfl)) (mvT hZ (own_w hw 296 rfl)) (mvT hZ (own_w hw 297 rfl)) (by decide) (backOfS (W := 2) (rm_tinit l Z a0 hw [] b14 s0 s1 s2 s3 _ _ _ _ h14 n0 Z0 E_b14 F_source_b14 g_b14 F_stimulus_b14 F_reaction_b14 F_target_b14) hZ (own_w hw 297 rfl) (own_w hw 294 rfl) (by decide) (by decide)) (g := (mkF m 99 (own_P p1 p2 p3 p4 q5 q6 (.val (.int (p1 &&& (3 : Int32)))) (.val (.ref sI)) (.val (.ref s0)) (.val (.ref s1)) (.val (.ref s2)) (.val (.ref s3)) (.val (.ref b12)) .unset .unset) [(.ref s3), (.ref s2), (.ref s1), (.ref s0), (.ref b14), (.ref b14), (.ref b12)])) rfl (by rw [hml]; rfl) (Steps.refl _) (a := b14) (argsL := [(.ref s0), (.ref s1), (.ref s2), (.ref s3)]) (rest := [(.ref b14), (.ref b12)]) (lenOf pd_0_29 rfl) rfl (Nat.le_of_eq rfl) (hb hby at_99) (fun _ _ => ⟨rfl, e14, (by decide : 12 + 8 ≤ _), (by decide : 32 + 128 ≤ _)⟩)
  dsimp only [Pt.U, Pt.locs, Pt.cells, Pt.slots] at X15 l15 y15 z15 st15 hQ15 hSn15 hGr15
  subst l15 y15 z15
  obtain ⟨rfl, N15q, K15, Ea15⟩ := hQ15
  have N15 := Fr.app N13 N15q
  replace X15 : Stand p l e _ (s.setVm T15.vm) m _ below meth c T15 _ _ _ := X15
  have hS := hS.trans hSn15 (Nat.le_trans (by rw [e14]; exact (Nat.le_trans (Nat.le_trans (Nat.le_trans (Nat.le_trans (Nat.le_trans (Nat.le_trans (Nat.le_trans (Nat.le_trans hk Ex7.1) Ex8.1) Ex9.1) Ex10.1) Ex11.1) E12.1) K13.1) E14.1)) hGr15)
  have hk : T15.heap.size ≤ T15.heap.size := Nat.le_refl _
  have hZ := State.Warmed39.trans (t := s.setVm _) hZ hSn15.1
  have hown : (s.setVm T15.vm).vm.findClass "com/example/arcrover/arcrover/ExplorationTransitionsPinLaw" = some m.cls := by rw [show (s.setVm T15.vm).vm = T15.vm from rfl, hSn15.1.alike.findClass]; exact hown
  have Kc15 : Keep h0 T15.heap [] := K14.trans K15 (allS (Or.inr sz_b14) all0)
  have f2 := ((El_b12.ext E14).keep K15)
  have f3 := ((Fel_b12.ext E14).keep K15 (ninS (Nat.ne_of_lt (Nat.lt_of_lt_of_le El_b12.lt (Nat.le_of_eq g14.symm))) (nin0)))
  have f4 := ((Fsl_b12.ext E14).keep K15 (ninS (Nat.ne_of_lt (Nat.lt_of_lt_of_le El_b12.lt (Nat.le_of_eq g14.symm))) (nin0)))
  have f5 := ((Fml_b12.ext E14).keep K15 (ninS (Nat.ne_of_lt (Nat.lt_of_lt_of_le El_b12.lt (Nat.le_of_eq g14.symm))) (nin0)))
  have Ol := (((Ol.keep K13 (allS g_b12 all0)).ext E14).keep K15 (allS g_b14 all0))
  have Z0 : n0 ≤ _ := (Nat.le_trans Z0 K15.1)
  have f1 := ((El_b12.ext E14).keep K15)
  obtain ⟨cq16, kq16, q16a, q16b, q16c⟩ := isOf hZ rfl f1
  obtain ⟨_, _, ⟨T16, L16, k16, n16⟩, -, X16, ⟨Lc16, hQ16, l16, y16, z16⟩, st16⟩ := X15.interfaceBack hx (xi := own_y11) (y := own_y4) hown (mvT hZ (own_w hw 70 rfl)) (mvT hZ (own_w hw 71 rfl)) (mvT hZ (own_w hw 72 rfl)) (mvT hZ (own_w hw 73 rfl)) (mvT hZ (own_w hw 74 rfl)) (mvT hZ (own_w hw 75 rfl)) (mvT hZ (own_w hw 76 rfl)) (mvT hZ (own_w hw 77 rfl)) (by decide) (backOf (W := 0) (rm_adda l Z a0 hw [] b12 b14 wD (0 : Int32) (0 : Int32) cD T15.heap n0 Z0 Ol S_DC f2 f3 f4 f5 (A_D.ext (Ol).2) hszD g_b12 (by decide) (Ins.of_exa Ea15 (own_w hw 312 rfl)) ((Ol).ne A_D.lt g_b12) rfl (by decide) (by decide)) hZ (own_w hw 78 rfl) (own_w hw 28 rfl) (by decide) (by decide)) q16a q16b q16c (g := (mkF m 102 (own_P p1 p2 p3 p4 q5 q6 (.val (.int (p1 &&& (3 : Int32)))) (.val (.ref sI)) (.val (.ref s0)) (.val (.ref s1)) (.val (.ref s2)) (.val (.ref s3)) (.val (.ref b12)) .unset .unset) [(.ref b14), (.ref b12)])) rfl (by rw [hml]; rfl) (Steps.refl _) (argsL := [(.ref b14)]) (rest := []) (lenOf pd_0_7 rfl) rfl (Nat.le_of_eq rfl) (hb hby at_102) (fun _ _ => ⟨rfl, rfl, (by decide : 20 + 1 ≤ _), (by decide : 160 + 10 ≤ _)⟩)
  dsimp only [Pt.U, Pt.locs, Pt.cells, Pt.slots] at X16 l16 y16 z16 st16 hQ16
  subst l16 y16 z16
  obtain ⟨bQ, kQ, rfl, N16q, Kg16, Eg_b12, Feg_b12, Fsg_b12, Fmg_b12, VQ, OQ, ggQ, szgQ, EaQ⟩ := hQ16
  have N16 := Fr.app N15 N16q
  have Kc16 : Keep h0 T16.heap [] := Kc15.trans Kg16 (allS (Or.inr sz_b12) all0)
  have hneQ : b12 ≠ bQ := by obtain ⟨c9, Ac, -⟩ := own_arr VQ; exact ne_arr Eg_b12 (own_w hw 27 rfl) Ac
  have szQ : h0.size ≤ bQ := Nat.le_trans (Kc15).1 szgQ
  obtain ⟨T17, h17, X17, e17, E17, A17, D17, -, st17⟩ := newO X16 hx hZ hown (own_w hw 26 rfl) (own_w hw 27 rfl) (own_w hw 28 rfl) rfl (g := (mkF m 166 (own_P p1 p2 p3 p4 q5 q6 (.val (.int (p1 &&& (3 : Int32)))) (.val (.ref sI)) (.val (.ref s0)) (.val (.ref s1)) (.val (.ref s2)) (.val (.ref s3)) (.val (.ref b12)) .unset .unset) [])) rfl (hb hby at_166) (by decide) (by decide)
  obtain ⟨b17, g17⟩ : ∃ z, z = T16.heap.size := ⟨_, rfl⟩
  rw [← g17] at A17 D17 st17
  have F_modCount_b17 : Fld Z h17 b17 "java/util/AbstractList" "modCount" "I" (.int (0 : Int32)) := D17 (Or.inl (own_w hw 46 rfl)) (ty := .int) (by decide)
  have F_elementData_b17 : Fld Z h17 b17 "java/util/ArrayList" "elementData" "[Ljava/lang/Object;" .null := D17 (Or.inl (own_w hw 49 rfl)) (ty := (.array (.object "java/lang/Object"))) (by decide)
  have F_size_b17 : Fld Z h17 b17 "java/util/ArrayList" "size" "I" (.int (0 : Int32)) := D17 (Or.inl (own_w hw 82 rfl)) (ty := .int) (by decide)
  have E_b17 := A17
  have g_b17 : n0 ≤ b17 := Nat.le_trans (Nat.le_trans Z0 Kg16.1) (Nat.le_of_eq g17.symm)
  have sz_b17 : h0.size ≤ b17 := (Nat.le_trans Kc16.1 (Nat.le_of_eq g17.symm))
  have K17 : Keep h0 h17 [] := Kc16.ext E17
  have Ol := ((Ol.keep Kg16 (allS g_b12 all0)).ext E17)
  have Z0 : n0 ≤ _ := (Nat.le_trans (Nat.le_trans Z0 Kg16.1) E17.1)
  obtain ⟨_, _, ⟨T18, L18, k18, n18⟩, -, X18, ⟨Lc18, hQ18, l18, y18, z18⟩, st18⟩ := X17.specialBack hx (y := own_y3) rfl hown (mvT hZ (own_w hw 29 rfl)) (mvT hZ (own_w hw 30 rfl)) (mvT hZ (own_w hw 31 rfl)) (by decide) (backOf (W := 1) (rm_al l Z a0 hw [] b17 wD _ _ _ h17 n0 Z0 Ol S_DC E_b17 F_elementData_b17 F_size_b17 F_modCount_b17 g_b17) hZ (own_w hw 31 rfl) (own_w hw 28 rfl) (by decide) (by decide)) (g := (mkF m 170 (own_P p1 p2 p3 p4 q5 q6 (.val (.int (p1 &&& (3 : Int32)))) (.val (.ref sI)) (.val (.ref s0)) (.val (.ref s1)) (.val (.ref s2)) (.val (.ref s3)) (.val (.ref b12)) .unset .unset) [(.ref b17), (.ref b17)])) rfl (by rw [hml]; rfl) (Steps.refl _) (a := b17) (argsL := []) (rest := [(.ref b17)]) (lenOf pd_0_4 rfl) rfl (Nat.le_of_eq rfl) (hb hby at_170) (fun _ _ => ⟨rfl, e17, (by decide : 22 + 0 ≤ _), (by decide : 173 + 0 ≤ _)⟩)
  dsimp only [Pt.U, Pt.locs, Pt.cells, Pt.slots] at X18 l18 y18 z18 st18 hQ18
  subst l18 y18 z18
  obtain ⟨rfl, N18q, K18, Ew_b17, Few_b17, Fsw_b17, Fmw_b17⟩ := hQ18
  have N18 := Fr.app N16 N18q
  have Kc18 : Keep h0 T18.heap [] := K17.trans K18 (allS (Or.inr sz_b17) all0)
  have Ol := (Ol.keep K18 (allS g_b17 all0))
  have Z0 : n0 ≤ _ := (Nat.le_trans Z0 K18.1)
  obtain ⟨_, _, ⟨T19, L19, k19, n19⟩, -, X19, ⟨Lc19, hQ19, l19, y19, z19⟩, st19⟩ := Jvm.LawKit.callS X18 hx (y := own_y1) hown (mvT hZ (own_w hw 50 rfl)) (mvT hZ (own_w hw 51 rfl)) (mvT hZ (own_w hw 52 rfl)) (mvT hZ (own_w hw 53 rfl)) (by decide) (backOf (W := 1) (HL T18.heap Z0 Ol) hZ (own_w hw 53 rfl) (own_w hw 52 rfl) (by decide) (by decide)) (g := (mkF m 179 (own_P p1 p2 p3 p4 q5 q6 (.val (.int (p1 &&& (3 : Int32)))) (.val (.ref sI)) (.val (.ref s0)) (.val (.ref s1)) (.val (.ref s2)) (.val (.ref s3)) (.val (.ref b12)) (.val (.ref b17)) .unset) [(.long q5), (.ref b17)])) rfl (by rw [hml]; rfl) (argsL := [(.long q5)]) (rest := [(.ref b17)]) (lenOf pd_0_5 rfl) rfl (Nat.le_of_eq rfl) (hb hby at_179) (fun _ _ => ⟨rfl, rfl, (by decide : 22 + 1 ≤ _), (by decide : 173 + 1 ≤ _)⟩)
  dsimp only [Pt.U, Pt.locs, Pt.cells, Pt.slots] at X19 l19 y19 z19 st19 hQ19
  subst l19 y19 z19
  obtain ⟨bV, rfl, N19q, ExV, EaV⟩ := hQ19
  have N19 := Fr.app N18 N19q
  have Kc19 : Keep h0 T19.heap [] := Kc18.ext ExV
  have f7 := (Ew_b17.ext ExV)
  have f8 := (Few_b17.ext ExV)
  have f9 := (Fsw_b17.ext ExV)
  have f10 := (Fmw_b17.ext ExV)
  have Ol := (Ol.ext ExV)
  have Z0 : n0 ≤ _ := (Nat.le_trans Z0 ExV.1)
  have f6 := (Ew_b17.ext ExV)
  obtain ⟨cq20, kq20, q20a, q20b, q20c⟩ := isOf hZ rfl f6
  obtain ⟨_, _, ⟨T20, L20, k20, n20⟩, -, X20, ⟨Lc20, hQ20, l20, y20, z20⟩, st20⟩ := X19.interfaceBack hx (xi := own_y11) (y := own_y4) hown (mvT hZ (own_w hw 70 rfl)) (mvT hZ (own_w hw 71 rfl)) (mvT hZ (own_w hw 72 rfl)) (mvT hZ (own_w hw 73 rfl)) (mvT hZ (own_w hw 74 rfl)) (mvT hZ (own_w hw 75 rfl)) (mvT hZ (own_w hw 76 rfl)) (mvT hZ (own_w hw 77 rfl)) (by decide) (backOf (W := 0) (rm_adda l Z a0 hw [] b17 bV wD (0 : Int32) (0 : Int32) cD T19.heap n0 Z0 Ol S_DC f7 f8 f9 f10 (A_D.ext (Ol).2) hszD g_b17 (by decide) (Ins.of_exa EaV (own_w hw 104 rfl)) ((Ol).ne A_D.lt g_b17) rfl (by decide) (by decide)) hZ (own_w hw 78 rfl) (own_w hw 28 rfl) (by decide) (by decide)) q20a q20b q20c (g := (mkF m 182 (own_P p1 p2 p3 p4 q5 q6 (.val (.int (p1 &&& (3 : Int32)))) (.val (.ref sI)) (.val (.ref s0)) (.val (.ref s1)) (.val (.ref s2)) (.val (.ref s3)) (.val (.ref b12)) (.val (.ref b17)) .unset) [(.ref bV), (.ref b17)])) rfl (by rw [hml]; rfl) (Steps.refl _) (argsL := [(.ref bV)]) (rest := []) (lenOf pd_0_7 rfl) rfl (Nat.le_of_eq rfl) (hb hby at_182) (fun _ _ => ⟨rfl, rfl, (by decide : 23 + 1 ≤ _), (by decide : 174 + 10 ≤ _)⟩)
  dsimp only [Pt.U, Pt.locs, Pt.cells, Pt.slots] at X20 l20 y20 z20 st20 hQ20
  subst l20 y20 z20
  obtain ⟨bP, kP, rfl, N20q, Kg20, Ey_b17, Fey_b17, Fsy_b17, Fmy_b17, VP, OP, ggP, szgP, EaP⟩ := hQ20
  have N20 := Fr.app N19 N20q
  have Kc20 : Keep h0 T20.heap [] := Kc19.trans Kg20 (allS (Or.inr sz_b17) all0)
  have hneP : b17 ≠ bP := by obtain ⟨c9, Ac, -⟩ := own_arr VP; exact ne_arr Ey_b17 (own_w hw 27 rfl) Ac
  have szP : h0.size ≤ bP := Nat.le_trans (Kc19).1 szgP
  obtain ⟨T21, h21, X21, e21, E21, A21, D21, -, st21⟩ := newO X20 hx hZ hown (own_w hw 105 rfl) (own_w hw 106 rfl) (own_w hw 107 rfl) rfl (g := (mkF m 188 (own_P p1 p2 p3 p4 q5 q6 (.val (.int (p1 &&& (3 : Int32)))) (.val (.ref sI)) (.val (.ref s0)) (.val (.ref s1)) (.val (.ref s2)) (.val (.ref s3)) (.val (.ref b12)) (.val (.ref b17)) .unset) [])) rfl (hb hby at_188) (by decide) (by decide)
  obtain ⟨b21, g21⟩ : ∃ z, z = T20.heap.size := ⟨_, rfl⟩
  rw [← g21] at A21 D21 st21
  have F_graph_b21 : Fld Z h21 b21 "com/example/arcrover/arcrover/Exploration" "graph" "Lcom/example/arcrover/arcrover/StateMachine;" .null := D21 (Or.inr (own_w hw 253 rfl)) (ty := (.object "com/example/arcrover/arcrover/StateMachine")) (by decide)
  have F_states_b21 : Fld Z h21 b21 "com/example/arcrover/arcrover/Exploration" "states" "I" (.int (0 : Int32)) := D21 (Or.inr (own_w hw 255 rfl)) (ty := .int) (by decide)
  have F_untried_b21 : Fld Z h21 b21 "com/example/arcrover/arcrover/Exploration" "untried" "I" (.int (0 : Int32)) := D21 (Or.inr (own_w hw 257 rfl)) (ty := .int) (by decide)
  have F_stimuli_b21 : Fld Z h21 b21 "com/example/arcrover/arcrover/Exploration" "stimuli" "J" (.long (0 : Int64)) := D21 (Or.inr (own_w hw 259 rfl)) (ty := .long) (by decide)
  have F_restarts_b21 : Fld Z h21 b21 "com/example/arcrover/arcrover/Exploration" "restarts" "J" (.long (0 : Int64)) := D21 (Or.inr (own_w hw 261 rfl)) (ty := .long) (by decide)
  have F_walkerStimuli_b21 : Fld Z h21 b21 "com/example/arcrover/arcrover/Exploration" "walkerStimuli" "Ljava/util/List;" .null := D21 (Or.inr (own_w hw 263 rfl)) (ty := (.object "java/util/List")) (by decide)
  have F_verdict_b21 : Fld Z h21 b21 "com/example/arcrover/arcrover/Exploration" "verdict" "Lcom/example/arcrover/arcrover/Verdict;" .null := D21 (Or.inr (own_w hw 265 rfl)) (ty := (.object "com/example/arcrover/arcrover/Verdict")) (by decide)
  have F_witness_b21 : Fld Z h21 b21 "com/example/arcrover/arcrover/Exploration" "witness" "Lcom/example/arcrover/arcrover/Witness;" .null := D21 (Or.inr (own_w hw 267 rfl)) (ty := (.object "com/example/arcrover/arcrover/Witness")) (by decide)
  have F_rejections_b21 : Fld Z h21 b21 "com/example/arcrover/arcrover/Exploration" "rejections" "Ljava/util/List;" .null := D21 (Or.inr (own_w hw 269 rfl)) (ty := (.object "java/util/List")) (by decide)
  have E_b21 := A21
  have g_b21 : n0 ≤ b21 := Nat.le_trans (Nat.le_trans Z0 Kg20.1) (Nat.le_of_eq g21.symm)
  have sz_b21 : h0.size ≤ b21 := (Nat.le_trans Kc20.1 (Nat.le_of_eq g21.symm))
  have K21 : Keep h0 h21 [] := Kc20.ext E21
  obtain ⟨T22, h22, X22, e22, E22, A22, D22, -, st22⟩ := newO X21 hx hZ hown (own_w hw 108 rfl) (own_w hw 109 rfl) (own_w hw 110 rfl) e21 (g := (mkF m 192 (own_P p1 p2 p3 p4 q5 q6 (.val (.int (p1 &&& (3 : Int32)))) (.val (.ref sI)) (.val (.ref s0)) (.val (.ref s1)) (.val (.ref s2)) (.val (.ref s3)) (.val (.ref b12)) (.val (.ref b17)) .unset) [(.ref b21), (.ref b21)])) rfl (hb hby at_192) (by decide) (by decide)
  obtain ⟨b22, g22⟩ : ∃ z, z = h21.size := ⟨_, rfl⟩
  rw [← g22] at A22 D22 st22
  have F_initial_b22 : Fld Z h22 b22 "com/example/arcrover/arcrover/StateMachine" "initial" "Ljava/lang/String;" .null := D22 (Or.inr (own_w hw 180 rfl)) (ty := (.object "java/lang/String")) (by decide)
  have F_transitions_b22 : Fld Z h22 b22 "com/example/arcrover/arcrover/StateMachine" "transitions" "Ljava/util/List;" .null := D22 (Or.inr (own_w hw 182 rfl)) (ty := (.object "java/util/List")) (by decide)
  have F_probabilities_b22 : Fld Z h22 b22 "com/example/arcrover/arcrover/StateMachine" "probabilities" "Ljava/util/Map;" .null := D22 (Or.inr (own_w hw 184 rfl)) (ty := (.object "java/util/Map")) (by decide)
  have E_b22 := A22
  have g_b22 : n0 ≤ b22 := Nat.le_trans (Nat.le_trans (Nat.le_trans Z0 Kg20.1) E21.1) (Nat.le_of_eq g22.symm)
  have sz_b22 : h0.size ≤ b22 := (Nat.le_trans K21.1 (Nat.le_of_eq g22.symm))
  have K22 : Keep h0 h22 [] := K21.ext E22
  have f11 := ((((((Eg_b12.ext E17).keep K18).ext ExV).keep Kg20).ext E21).ext E22)
  have f12 := ((((((Feg_b12.ext E17).keep K18 (ninS (Nat.ne_of_lt (Nat.lt_of_lt_of_le (((El_b12.ext E14).keep K15).keep Kg16).lt (Nat.le_of_eq g17.symm))) (nin0))).ext ExV).keep Kg20 (ninS (Nat.ne_of_lt (Nat.lt_of_lt_of_le (((El_b12.ext E14).keep K15).keep Kg16).lt (Nat.le_of_eq g17.symm))) (nin0))).ext E21).ext E22)
  have f13 := ((((((Fsg_b12.ext E17).keep K18 (ninS (Nat.ne_of_lt (Nat.lt_of_lt_of_le (((El_b12.ext E14).keep K15).keep Kg16).lt (Nat.le_of_eq g17.symm))) (nin0))).ext ExV).keep Kg20 (ninS (Nat.ne_of_lt (Nat.lt_of_lt_of_le (((El_b12.ext E14).keep K15).keep Kg16).lt (Nat.le_of_eq g17.symm))) (nin0))).ext E21).ext E22)
  have f14 := ((((((VQ.ext E17).keep K18 (ninS (Nat.ne_of_lt (Nat.lt_of_lt_of_le VQ.lt (Nat.le_of_eq g17.symm))) (nin0))).ext ExV).keep Kg20 (ninS (Nat.ne_of_lt (Nat.lt_of_lt_of_le VQ.lt (Nat.le_of_eq g17.symm))) (nin0))).ext E21).ext E22)
  have f15 := ((((((EaQ.ext E17).keep K18).ext ExV).keep Kg20).ext E21).ext E22)
  have f16 := (((((((Ea15.keep Kg16).ext E17).keep K18).ext ExV).keep Kg20).ext E21).ext E22)
  have Ol := (((Ol.keep Kg20 (allS g_b17 all0)).ext E21).ext E22)
  have Z0 : n0 ≤ _ := (Nat.le_trans (Nat.le_trans (Nat.le_trans Z0 Kg20.1) E21.1) E22.1)
  obtain ⟨_, _, ⟨T23, L23, k23, n23⟩, -, X23, hSn23, hGr23, ⟨Lc23, hQ23, l23, y23, z23⟩, st23⟩ := X22.specialBackS hx (y := own_y8) rfl hown (mvT hZ (own_w hw 111 rfl)) (mvT hZ (own_w hw 112 rfl)) (mvT hZ (own_w hw 113 rfl)) (by decide) (backOfS (W := 3) (rm_sm2_1 l Z a0 hw [] b22 sI b12 wM kQ _ b14 bQ aM wO _ _ _ h22 n0 Z0 Ol S_EMPTY_MAP S_EMPTY f11 f12 (by have q := f13; rw [show ((0 : Int32) + (1 : Int32)) = (1 : Int32) from by decide] at q; exact q) f14 f15 Mr (by rfl) (Ins.of_exa f16 (own_w hw 312 rfl)) (E_M.ext (Ol).2) (F_M.ext (Ol).2) E_b22 F_initial_b22 F_transitions_b22 F_probabilities_b22 g_b22) hZ (own_w hw 113 rfl) (own_w hw 110 rfl) (by decide) (by decide)) (g := (mkF m 200 (own_P p1 p2 p3 p4 q5 q6 (.val (.int (p1 &&& (3 : Int32)))) (.val (.ref sI)) (.val (.ref s0)) (.val (.ref s1)) (.val (.ref s2)) (.val (.ref s3)) (.val (.ref b12)) (.val (.ref b17)) .unset) [(.ref b12), (.ref sI), (.ref b22), (.ref b22), (.ref b21), (.ref b21)])) rfl (by rw [hml]; rfl) (Steps.refl _) (a := b22) (argsL := [(.ref sI), (.ref b12)]) (rest := [(.ref b22), (.ref b21), (.ref b21)]) (lenOf pd_0_12 rfl) rfl (Nat.le_of_eq rfl) (hb hby at_200) (fun _ _ => ⟨rfl, e22, (by decide : 26 + 4 ≤ _), (by decide : 196 + 35 ≤ _)⟩)
  dsimp only [Pt.U, Pt.locs, Pt.cells, Pt.slots] at X23 l23 y23 z23 st23 hQ23 hSn23 hGr23
  subst l23 y23 z23
  obtain ⟨bL, rfl, N23q, Ks, Es, Ft, Ls⟩ := hQ23
  have N23 := Fr.app N20 N23q
  replace X23 : Stand p l e _ (s.setVm T23.vm) m _ below meth c T23 _ _ _ := X23
  have hS := hS.trans hSn23 (Nat.le_trans (by rw [e22]; exact (Nat.le_trans (Nat.le_trans (Nat.le_trans (Nat.le_trans (Nat.le_trans (Nat.le_trans (Nat.le_trans hk Kg16.1) E17.1) K18.1) ExV.1) Kg20.1) E21.1) E22.1)) hGr23)
  have hk : T23.heap.size ≤ T23.heap.size := Nat.le_refl _
  have hZ := State.Warmed39.trans (t := s.setVm _) hZ hSn23.1
  have hown : (s.setVm T23.vm).vm.findClass "com/example/arcrover/arcrover/ExplorationTransitionsPinLaw" = some m.cls := by rw [show (s.setVm T23.vm).vm = T23.vm from rfl, hSn23.1.alike.findClass]; exact hown
  have Kc23 : Keep h0 T23.heap [] := K22.trans Ks (allS (Or.inr sz_b22) all0)
  obtain ⟨EbL, F1L⟩ := Ls
  have f17 := ((E_b21.ext E22).keep Ks)
  have neXL : b21 ≠ bL := ne_exa f17 EbL (by decide)
  obtain ⟨T24, h24, X24, e24, E24, A24, D24, -, st24⟩ := newO X23 hx hZ hown (own_w hw 26 rfl) (own_w hw 27 rfl) (own_w hw 28 rfl) rfl (g := (mkF m 213 (own_P p1 p2 p3 p4 q5 q6 (.val (.int (p1 &&& (3 : Int32)))) (.val (.ref sI)) (.val (.ref s0)) (.val (.ref s1)) (.val (.ref s2)) (.val (.ref s3)) (.val (.ref b12)) (.val (.ref b17)) .unset) [.null, .null, (.ref b17), (.long q6), (.long q5), (.int p4), (.int p3), (.ref b22), (.ref b21), (.ref b21)])) rfl (hb hby at_213) (by decide) (by decide)
  obtain ⟨b24, g24⟩ : ∃ z, z = T23.heap.size := ⟨_, rfl⟩
  rw [← g24] at A24 D24 st24
  have F_modCount_b24 : Fld Z h24 b24 "java/util/AbstractList" "modCount" "I" (.int (0 : Int32)) := D24 (Or.inl (own_w hw 46 rfl)) (ty := .int) (by decide)
  have F_elementData_b24 : Fld Z h24 b24 "java/util/ArrayList" "elementData" "[Ljava/lang/Object;" .null := D24 (Or.inl (own_w hw 49 rfl)) (ty := (.array (.object "java/lang/Object"))) (by decide)
  have F_size_b24 : Fld Z h24 b24 "java/util/ArrayList" "size" "I" (.int (0 : Int32)) := D24 (Or.inl (own_w hw 82 rfl)) (ty := .int) (by decide)
  have E_b24 := A24
  have g_b24 : n0 ≤ b24 := Nat.le_trans (Nat.le_trans Z0 Ks.1) (Nat.le_of_eq g24.symm)
  have sz_b24 : h0.size ≤ b24 := (Nat.le_trans Kc23.1 (Nat.le_of_eq g24.symm))
  have K24 : Keep h0 h24 [] := Kc23.ext E24
  have Ol := ((Ol.keep Ks (allS g_b22 all0)).ext E24)
  have Z0 : n0 ≤ _ := (Nat.le_trans (Nat.le_trans Z0 Ks.1) E24.1)
  obtain ⟨_, _, ⟨T25, L25, k25, n25⟩, -, X25, ⟨Lc25, hQ25, l25, y25, z25⟩, st25⟩ := X24.specialBack hx (y := own_y3) rfl hown (mvT hZ (own_w hw 29 rfl)) (mvT hZ (own_w hw 30 rfl)) (mvT hZ (own_w hw 31 rfl)) (by decide) (backOf (W := 13) (rm_al l Z a0 hw [] b24 wD _ _ _ h24 n0 Z0 Ol S_DC E_b24 F_elementData_b24 F_size_b24 F_modCount_b24 g_b24) hZ (own_w hw 31 rfl) (own_w hw 28 rfl) (by decide) (by decide)) (g := (mkF m 217 (own_P p1 p2 p3 p4 q5 q6 (.val (.int (p1 &&& (3 : Int32)))) (.val (.ref sI)) (.val (.ref s0)) (.val (.ref s1)) (.val (.ref s2)) (.val (.ref s3)) (.val (.ref b12)) (.val (.ref b17)) .unset) [(.ref b24), (.ref b24), .null, .null, (.ref b17), (.long q6), (.long q5), (.int p4), (.int p3), (.ref b22), (.ref b21), (.ref b21)])) rfl (by rw [hml]; rfl) (Steps.refl _) (a := b24) (argsL := []) (rest := [(.ref b24), .null, .null, (.ref b17), (.long q6), (.long q5), (.int p4), (.int p3), (.ref b22), (.ref b21), (.ref b21)]) (lenOf pd_0_4 rfl) rfl (Nat.le_of_eq rfl) (hb hby at_217) (fun _ _ => ⟨rfl, e24, (by decide : 31 + 0 ≤ _), (by decide : 234 + 0 ≤ _)⟩)
  dsimp only [Pt.U, Pt.locs, Pt.cells, Pt.slots] at X25 l25 y25 z25 st25 hQ25
  subst l25 y25 z25
  obtain ⟨rfl, N25q, K25, Er_b24, Fer_b24, Fsr_b24, Fmr_b24⟩ := hQ25
  have N25 := Fr.app N23 N25q
  have Kc25 : Keep h0 T25.heap [] := K24.trans K25 (allS (Or.inr sz_b24) all0)
  have f18 := (((((Ey_b17.ext E21).ext E22).keep Ks).ext E24).keep K25)
  have f19 := (((((Fey_b17.ext E21).ext E22).keep Ks (ninS (Nat.ne_of_lt (Nat.lt_of_lt_of_le (((Ew_b17.ext ExV).keep Kg20).ext E21).lt (Nat.le_of_eq g22.symm))) (nin0))).ext E24).keep K25 (ninS (Nat.ne_of_lt (Nat.lt_of_lt_of_le (((((Ew_b17.ext ExV).keep Kg20).ext E21).ext E22).keep Ks).lt (Nat.le_of_eq g24.symm))) (nin0)))
  have f20 := (((((Fsy_b17.ext E21).ext E22).keep Ks (ninS (Nat.ne_of_lt (Nat.lt_of_lt_of_le (((Ew_b17.ext ExV).keep Kg20).ext E21).lt (Nat.le_of_eq g22.symm))) (nin0))).ext E24).keep K25 (ninS (Nat.ne_of_lt (Nat.lt_of_lt_of_le (((((Ew_b17.ext ExV).keep Kg20).ext E21).ext E22).keep Ks).lt (Nat.le_of_eq g24.symm))) (nin0)))
  have f21 := (((((VP.ext E21).ext E22).keep Ks (ninS (Nat.ne_of_lt (Nat.lt_of_lt_of_le (VP.ext E21).lt (Nat.le_of_eq g22.symm))) (nin0))).ext E24).keep K25 (ninS (Nat.ne_of_lt (Nat.lt_of_lt_of_le (((VP.ext E21).ext E22).keep Ks (ninS (Nat.ne_of_lt (Nat.lt_of_lt_of_le (VP.ext E21).lt (Nat.le_of_eq g22.symm))) (nin0))).lt (Nat.le_of_eq g24.symm))) (nin0)))
  have f22 := (((((EaP.ext E21).ext E22).keep Ks).ext E24).keep K25)
  have f23 := ((((((EaV.keep Kg20).ext E21).ext E22).keep Ks).ext E24).keep K25)
  have f24 := ((f17.ext E24).keep K25)
  have f25 := ((((F_graph_b21.ext E22).keep Ks (ninS (Nat.ne_of_lt (Nat.lt_of_lt_of_le E_b21.lt (Nat.le_of_eq g22.symm))) (nin0))).ext E24).keep K25 (ninS (Nat.ne_of_lt (Nat.lt_of_lt_of_le ((E_b21.ext E22).keep Ks).lt (Nat.le_of_eq g24.symm))) (nin0)))
  have f26 := ((((F_states_b21.ext E22).keep Ks (ninS (Nat.ne_of_lt (Nat.lt_of_lt_of_le E_b21.lt (Nat.le_of_eq g22.symm))) (nin0))).ext E24).keep K25 (ninS (Nat.ne_of_lt (Nat.lt_of_lt_of_le ((E_b21.ext E22).keep Ks).lt (Nat.le_of_eq g24.symm))) (nin0)))
  have f27 := ((((F_untried_b21.ext E22).keep Ks (ninS (Nat.ne_of_lt (Nat.lt_of_lt_of_le E_b21.lt (Nat.le_of_eq g22.symm))) (nin0))).ext E24).keep K25 (ninS (Nat.ne_of_lt (Nat.lt_of_lt_of_le ((E_b21.ext E22).keep Ks).lt (Nat.le_of_eq g24.symm))) (nin0)))
  have f28 := ((((F_stimuli_b21.ext E22).keep Ks (ninS (Nat.ne_of_lt (Nat.lt_of_lt_of_le E_b21.lt (Nat.le_of_eq g22.symm))) (nin0))).ext E24).keep K25 (ninS (Nat.ne_of_lt (Nat.lt_of_lt_of_le ((E_b21.ext E22).keep Ks).lt (Nat.le_of_eq g24.symm))) (nin0)))
  have f29 := ((((F_restarts_b21.ext E22).keep Ks (ninS (Nat.ne_of_lt (Nat.lt_of_lt_of_le E_b21.lt (Nat.le_of_eq g22.symm))) (nin0))).ext E24).keep K25 (ninS (Nat.ne_of_lt (Nat.lt_of_lt_of_le ((E_b21.ext E22).keep Ks).lt (Nat.le_of_eq g24.symm))) (nin0)))
  have f30 := ((((F_walkerStimuli_b21.ext E22).keep Ks (ninS (Nat.ne_of_lt (Nat.lt_of_lt_of_le E_b21.lt (Nat.le_of_eq g22.symm))) (nin0))).ext E24).keep K25 (ninS (Nat.ne_of_lt (Nat.lt_of_lt_of_le ((E_b21.ext E22).keep Ks).lt (Nat.le_of_eq g24.symm))) (nin0)))
  have f31 := ((((F_verdict_b21.ext E22).keep Ks (ninS (Nat.ne_of_lt (Nat.lt_of_lt_of_le E_b21.lt (Nat.le_of_eq g22.symm))) (nin0))).ext E24).keep K25 (ninS (Nat.ne_of_lt (Nat.lt_of_lt_of_le ((E_b21.ext E22).keep Ks).lt (Nat.le_of_eq g24.symm))) (nin0)))
  have f32 := ((((F_witness_b21.ext E22).keep Ks (ninS (Nat.ne_of_lt (Nat.lt_of_lt_of_le E_b21.lt (Nat.le_of_eq g22.symm))) (nin0))).ext E24).keep K25 (ninS (Nat.ne_of_lt (Nat.lt_of_lt_of_le ((E_b21.ext E22).keep Ks).lt (Nat.le_of_eq g24.symm))) (nin0)))
  have f33 := ((((F_rejections_b21.ext E22).keep Ks (ninS (Nat.ne_of_lt (Nat.lt_of_lt_of_le E_b21.lt (Nat.le_of_eq g22.symm))) (nin0))).ext E24).keep K25 (ninS (Nat.ne_of_lt (Nat.lt_of_lt_of_le ((E_b21.ext E22).keep Ks).lt (Nat.le_of_eq g24.symm))) (nin0)))
  have Ol := (Ol.keep K25 (allS g_b24 all0))
  have Z0 : n0 ≤ _ := (Nat.le_trans Z0 K25.1)
  obtain ⟨_, _, ⟨T26, L26, k26, n26⟩, -, X26, ⟨Lc26, hQ26, l26, y26, z26⟩, st26⟩ := X25.specialBack hx (y := own_y26) rfl hown (mvT hZ (own_w hw 185 rfl)) (mvT hZ (own_w hw 186 rfl)) (mvT hZ (own_w hw 187 rfl)) (by decide) (backOf (W := 1) (rm_xinit l Z a0 hw [] b21 b22 p3 p4 q5 q6 b17 b24 kP _ bV bP aM wO wL _ _ _ _ _ _ _ _ _ T25.heap n0 Z0 Ol S_EMPTY f18 f19 (by have q := f20; rw [show ((0 : Int32) + (1 : Int32)) = (1 : Int32) from by decide] at q; exact q) f21 f22 Mr (by rfl) (Ins.of_exa f23 (own_w hw 104 rfl)) S_EMPTY_LIST Er_b24 Fsr_b24 f24 f25 g_b21 f26 f27 f28 f29 f30 f31 f32 f33) hZ (own_w hw 187 rfl) (own_w hw 107 rfl) (by decide) (by decide)) (g := (mkF m 220 (own_P p1 p2 p3 p4 q5 q6 (.val (.int (p1 &&& (3 : Int32)))) (.val (.ref sI)) (.val (.ref s0)) (.val (.ref s1)) (.val (.ref s2)) (.val (.ref s3)) (.val (.ref b12)) (.val (.ref b17)) .unset) [(.ref b24), .null, .null, (.ref b17), (.long q6), (.long q5), (.int p4), (.int p3), (.ref b22), (.ref b21), (.ref b21)])) rfl (by rw [hml]; rfl) (Steps.refl _) (a := b21) (argsL := [(.ref b22), (.int p3), (.int p4), (.long q5), (.long q6), (.ref b17), .null, .null, (.ref b24)]) (rest := [(.ref b21)]) (lenOf pd_0_20 rfl) rfl (Nat.le_of_eq rfl) (hb hby at_220) (fun _ _ => ⟨rfl, rfl, (by decide : 31 + 2 ≤ _), (by decide : 234 + 3 ≤ _)⟩)
  dsimp only [Pt.U, Pt.locs, Pt.cells, Pt.slots] at X26 l26 y26 z26 st26 hQ26
  subst l26 y26 z26
  obtain ⟨rfl, N26q, Kx, Exx, Fgx⟩ := hQ26
  have N26 := Fr.app N25 N26q
  have Kc26 : Keep h0 T26.heap [] := Kc25.trans Kx (allS (Or.inr sz_b21) all0)
  have f34 := (((Es.ext E24).keep K25).keep Kx)
  have f35 := (((Ft.ext E24).keep K25 (ninS (Nat.ne_of_lt (Nat.lt_of_lt_of_le Es.lt (Nat.le_of_eq g24.symm))) (nin0))).keep Kx (ninS (Ne.symm (Nat.ne_of_lt (Nat.lt_of_lt_of_le E_b21.lt (Nat.le_of_eq g22.symm)))) (nin0)))
  have f36 := (((EbL.ext E24).keep K25).keep Kx)
  have f37 := (((F1L.ext E24).keep K25 (ninS (Nat.ne_of_lt (Nat.lt_of_lt_of_le EbL.lt (Nat.le_of_eq g24.symm))) (nin0))).keep Kx (ninS (Ne.symm (neXL)) (nin0)))
  have Ol := (Ol.keep Kx (allS g_b21 all0))
  have Z0 : n0 ≤ _ := (Nat.le_trans Z0 Kx.1)
  obtain ⟨cq27, kq27, q27a, q27b, q27c⟩ := isOf hZ rfl Exx
  obtain ⟨_, _, ⟨T27, L27, k27, n27⟩, -, X27, ⟨Lc27, hQ27, l27, y27, z27⟩, st27⟩ := X26.virtualBack hx (y := own_y2) (z := own_y2) hown (mvT hZ (own_w hw 270 rfl)) (mvT hZ (own_w hw 271 rfl)) (notFace_of_selects (args := #[]) (mvT hZ (own_w hw 273 rfl))) (mvT hZ (own_w hw 273 rfl)) (mvT hZ (own_w hw 272 rfl)) (by decide) (backOf (W := 0) (rm_trn1 l Z a0 hw [] b21 b22 bL wO T26.heap n0 Z0 Fgx f34 f35 f36 Ol S_EMPTY f37) hZ (own_w hw 274 rfl) (own_w hw 107 rfl) (by decide) (by decide)) q27a q27c (g := (mkF m 227 (own_P p1 p2 p3 p4 q5 q6 (.val (.int (p1 &&& (3 : Int32)))) (.val (.ref sI)) (.val (.ref s0)) (.val (.ref s1)) (.val (.ref s2)) (.val (.ref s3)) (.val (.ref b12)) (.val (.ref b17)) (.val (.ref b21))) [(.ref b21)])) rfl (by rw [hml]; rfl) (Steps.refl _) (argsL := []) (rest := []) (lenOf pd_0_28 rfl) rfl (Nat.le_of_eq rfl) (hb hby at_227) (fun _ _ => ⟨rfl, rfl, (by decide : 33 + 0 ≤ _), (by decide : 237 + 0 ≤ _)⟩)
  dsimp only [Pt.U, Pt.locs, Pt.cells, Pt.slots] at X27 l27 y27 z27 st27 hQ27
  subst l27 y27 z27
  obtain ⟨rfl, N27q, K27⟩ := hQ27
  have N27 := Fr.app N26 N27q
  have hkEnd := Nat.le_trans (Nat.le_trans (Nat.le_trans (Nat.le_trans hk E24.1) K25.1) Kx.1) (Nat.le_of_eq (congrArg Array.size K27).symm)
  obtain ⟨fs, hr, hrun, hended, hEW⟩ := X27.leaveW hS hkEnd (v := some (.int (1 : Int32))) (fun h => by rw [Bd.returns] at h; cases h)
  refine ⟨_, _, pre0 _ ?_, hrun, hended, _, _, rfl, ?_, hEW.1, hEW.2.1, hEW.2.2.1, hEW.2.2.2.mono (by decide) (by decide)⟩
  · show Steps _ _ _ (s₁.setTop (mkF m 0 (own_P p1 p2 p3 p4 q5 q6 .unset .unset .unset .unset .unset .unset .unset .unset .unset) [])) _
    refine XS.iloadN X0.here hx rfl (hb hby at_0) rfl ?_
    refine XS.iconst X0.here hx rfl (hb hby at_1) ?_
    refine XS.iand X0.here hx rfl (hb hby at_2) rfl ?_
    refine XS.istore X0.here hx rfl (hb hby at_3) rfl (l' := (own_P p1 p2 p3 p4 q5 q6 (.val (.int (p1 &&& (3 : Int32)))) .unset .unset .unset .unset .unset .unset .unset .unset)) rfl ?_
    show Steps _ _ _ (s₁.setTop (mkF m 5 (own_P p1 p2 p3 p4 q5 q6 (.val (.int (p1 &&& (3 : Int32)))) .unset .unset .unset .unset .unset .unset .unset .unset) [])) _
    refine XS.iloadN X0.here hx rfl (hb hby at_5) rfl ?_
    refine XS.iconst X0.here hx rfl (hb hby at_6) ?_
    refine XS.iushr X0.here hx rfl (hb hby at_7) rfl ?_
    refine XS.sipush X0.here hx rfl (hb hby at_8) ?_
    show Steps _ _ _ (s₁.setTop (mkF m 11 (own_P p1 p2 p3 p4 q5 q6 (.val (.int (p1 &&& (3 : Int32)))) .unset .unset .unset .unset .unset .unset .unset .unset) [(.int (255 : Int32)), (.int ((p1.toUInt32 >>> ((2 : Int32) &&& 31).toUInt32).toInt32))])) _
    refine XS.iand X0.here hx rfl (hb hby at_11) rfl ?_
    refine XS.i2c X0.here hx rfl (hb hby at_12) rfl ?_
    show Steps _ _ _ (s₁.setTop (mkF m 13 (own_P p1 p2 p3 p4 q5 q6 (.val (.int (p1 &&& (3 : Int32)))) .unset .unset .unset .unset .unset .unset .unset .unset) [(.int ((((p1.toUInt32 >>> ((2 : Int32) &&& 31).toUInt32).toInt32) &&& (255 : Int32)).toUInt32.toUInt16.toUInt32.toInt32))])) _
    refine st7 _ ?_
    show Steps _ _ _ (T7.setTop (mkF m 16 (own_P p1 p2 p3 p4 q5 q6 (.val (.int (p1 &&& (3 : Int32)))) .unset .unset .unset .unset .unset .unset .unset .unset) [(.ref sI)])) _
    refine XS.astore X7.here hx rfl (hb hby at_16) rfl rfl (l' := (own_P p1 p2 p3 p4 q5 q6 (.val (.int (p1 &&& (3 : Int32)))) (.val (.ref sI)) .unset .unset .unset .unset .unset .unset .unset)) rfl ?_
    refine XS.iloadN X7.here hx rfl (hb hby at_18) rfl ?_
    refine XS.sipush X7.here hx rfl (hb hby at_19) ?_
    refine XS.iand X7.here hx rfl (hb hby at_22) rfl ?_
    show Steps _ _ _ (T7.setTop (mkF m 23 (own_P p1 p2 p3 p4 q5 q6 (.val (.int (p1 &&& (3 : Int32)))) (.val (.ref sI)) .unset .unset .unset .unset .unset .unset .unset) [(.int (p2 &&& (255 : Int32)))])) _
    refine XS.i2c X7.here hx rfl (hb hby at_23) rfl ?_
    show Steps _ _ _ (T7.setTop (mkF m 24 (own_P p1 p2 p3 p4 q5 q6 (.val (.int (p1 &&& (3 : Int32)))) (.val (.ref sI)) .unset .unset .unset .unset .unset .unset .unset) [(.int ((p2 &&& (255 : Int32)).toUInt32.toUInt16.toUInt32.toInt32))])) _
    refine st8 _ ?_
    show Steps _ _ _ (T8.setTop (mkF m 27 (own_P p1 p2 p3 p4 q5 q6 (.val (.int (p1 &&& (3 : Int32)))) (.val (.ref sI)) .unset .unset .unset .unset .unset .unset .unset) [(.ref s0)])) _
    refine XS.astore X8.here hx rfl (hb hby at_27) rfl rfl (l' := (own_P p1 p2 p3 p4 q5 q6 (.val (.int (p1 &&& (3 : Int32)))) (.val (.ref sI)) (.val (.ref s0)) .unset .unset .unset .unset .unset .unset)) rfl ?_
    refine XS.iloadN X8.here hx rfl (hb hby at_29) rfl ?_
    refine XS.bipush X8.here hx rfl (hb hby at_30) ?_
    refine XS.iushr X8.here hx rfl (hb hby at_32) rfl ?_
    show Steps _ _ _ (T8.setTop (mkF m 33 (own_P p1 p2 p3 p4 q5 q6 (.val (.int (p1 &&& (3 : Int32)))) (.val (.ref sI)) (.val (.ref s0)) .unset .unset .unset .unset .unset .unset) [(.int ((p2.toUInt32 >>> ((8 : Int32) &&& 31).toUInt32).toInt32))])) _
    refine XS.sipush X8.here hx rfl (hb hby at_33) ?_
    refine XS.iand X8.here hx rfl (hb hby at_36) rfl ?_
    refine XS.i2c X8.here hx rfl (hb hby at_37) rfl ?_
    show Steps _ _ _ (T8.setTop (mkF m 38 (own_P p1 p2 p3 p4 q5 q6 (.val (.int (p1 &&& (3 : Int32)))) (.val (.ref sI)) (.val (.ref s0)) .unset .unset .unset .unset .unset .unset) [(.int ((((p2.toUInt32 >>> ((8 : Int32) &&& 31).toUInt32).toInt32) &&& (255 : Int32)).toUInt32.toUInt16.toUInt32.toInt32))])) _
    refine st9 _ ?_
    show Steps _ _ _ (T9.setTop (mkF m 41 (own_P p1 p2 p3 p4 q5 q6 (.val (.int (p1 &&& (3 : Int32)))) (.val (.ref sI)) (.val (.ref s0)) .unset .unset .unset .unset .unset .unset) [(.ref s1)])) _
    refine XS.astore X9.here hx rfl (hb hby at_41) rfl rfl (l' := (own_P p1 p2 p3 p4 q5 q6 (.val (.int (p1 &&& (3 : Int32)))) (.val (.ref sI)) (.val (.ref s0)) (.val (.ref s1)) .unset .unset .unset .unset .unset)) rfl ?_
    refine XS.iloadN X9.here hx rfl (hb hby at_43) rfl ?_
    refine XS.bipush X9.here hx rfl (hb hby at_44) ?_
    refine XS.iushr X9.here hx rfl (hb hby at_46) rfl ?_
    show Steps _ _ _ (T9.setTop (mkF m 47 (own_P p1 p2 p3 p4 q5 q6 (.val (.int (p1 &&& (3 : Int32)))) (.val (.ref sI)) (.val (.ref s0)) (.val (.ref s1)) .unset .unset .unset .unset .unset) [(.int ((p2.toUInt32 >>> ((16 : Int32) &&& 31).toUInt32).toInt32))])) _
    refine XS.sipush X9.here hx rfl (hb hby at_47) ?_
    refine XS.iand X9.here hx rfl (hb hby at_50) rfl ?_
    refine XS.i2c X9.here hx rfl (hb hby at_51) rfl ?_
    show Steps _ _ _ (T9.setTop (mkF m 52 (own_P p1 p2 p3 p4 q5 q6 (.val (.int (p1 &&& (3 : Int32)))) (.val (.ref sI)) (.val (.ref s0)) (.val (.ref s1)) .unset .unset .unset .unset .unset) [(.int ((((p2.toUInt32 >>> ((16 : Int32) &&& 31).toUInt32).toInt32) &&& (255 : Int32)).toUInt32.toUInt16.toUInt32.toInt32))])) _
    refine st10 _ ?_
    show Steps _ _ _ (T10.setTop (mkF m 55 (own_P p1 p2 p3 p4 q5 q6 (.val (.int (p1 &&& (3 : Int32)))) (.val (.ref sI)) (.val (.ref s0)) (.val (.ref s1)) .unset .unset .unset .unset .unset) [(.ref s2)])) _
    refine XS.astore X10.here hx rfl (hb hby at_55) rfl rfl (l' := (own_P p1 p2 p3 p4 q5 q6 (.val (.int (p1 &&& (3 : Int32)))) (.val (.ref sI)) (.val (.ref s0)) (.val (.ref s1)) (.val (.ref s2)) .unset .unset .unset .unset)) rfl ?_
    refine XS.iloadN X10.here hx rfl (hb hby at_57) rfl ?_
    refine XS.bipush X10.here hx rfl (hb hby at_58) ?_
    refine XS.iushr X10.here hx rfl (hb hby at_60) rfl ?_
    show Steps _ _ _ (T10.setTop (mkF m 61 (own_P p1 p2 p3 p4 q5 q6 (.val (.int (p1 &&& (3 : Int32)))) (.val (.ref sI)) (.val (.ref s0)) (.val (.ref s1)) (.val (.ref s2)) .unset .unset .unset .unset) [(.int ((p2.toUInt32 >>> ((24 : Int32) &&& 31).toUInt32).toInt32))])) _
    refine XS.sipush X10.here hx rfl (hb hby at_61) ?_
    refine XS.iand X10.here hx rfl (hb hby at_64) rfl ?_
    refine XS.i2c X10.here hx rfl (hb hby at_65) rfl ?_
    show Steps _ _ _ (T10.setTop (mkF m 66 (own_P p1 p2 p3 p4 q5 q6 (.val (.int (p1 &&& (3 : Int32)))) (.val (.ref sI)) (.val (.ref s0)) (.val (.ref s1)) (.val (.ref s2)) .unset .unset .unset .unset) [(.int ((((p2.toUInt32 >>> ((24 : Int32) &&& 31).toUInt32).toInt32) &&& (255 : Int32)).toUInt32.toUInt16.toUInt32.toInt32))])) _
    refine st11 _ ?_
    show Steps _ _ _ (T11.setTop (mkF m 69 (own_P p1 p2 p3 p4 q5 q6 (.val (.int (p1 &&& (3 : Int32)))) (.val (.ref sI)) (.val (.ref s0)) (.val (.ref s1)) (.val (.ref s2)) .unset .unset .unset .unset) [(.ref s3)])) _
    refine XS.astore X11.here hx rfl (hb hby at_69) rfl rfl (l' := (own_P p1 p2 p3 p4 q5 q6 (.val (.int (p1 &&& (3 : Int32)))) (.val (.ref sI)) (.val (.ref s0)) (.val (.ref s1)) (.val (.ref s2)) (.val (.ref s3)) .unset .unset .unset)) rfl ?_
    show Steps _ _ _ (T11.setTop (mkF m 71 (own_P p1 p2 p3 p4 q5 q6 (.val (.int (p1 &&& (3 : Int32)))) (.val (.ref sI)) (.val (.ref s0)) (.val (.ref s1)) (.val (.ref s2)) (.val (.ref s3)) .unset .unset .unset) [])) _
    refine st12 _ ?_
    show Steps _ _ _ (T12.setTop (mkF m 74 (own_P p1 p2 p3 p4 q5 q6 (.val (.int (p1 &&& (3 : Int32)))) (.val (.ref sI)) (.val (.ref s0)) (.val (.ref s1)) (.val (.ref s2)) (.val (.ref s3)) .unset .unset .unset) [(.ref b12)])) _
    refine XS.dup X12.here hx rfl (hb hby at_74) rfl rfl ?_
    show Steps _ _ _ (T12.setTop (mkF m 75 (own_P p1 p2 p3 p4 q5 q6 (.val (.int (p1 &&& (3 : Int32)))) (.val (.ref sI)) (.val (.ref s0)) (.val (.ref s1)) (.val (.ref s2)) (.val (.ref s3)) .unset .unset .unset) [(.ref b12), (.ref b12)])) _
    refine st13.trans ?_
    show Steps _ _ _ (T13.setTop (mkF m 78 (own_P p1 p2 p3 p4 q5 q6 (.val (.int (p1 &&& (3 : Int32)))) (.val (.ref sI)) (.val (.ref s0)) (.val (.ref s1)) (.val (.ref s2)) (.val (.ref s3)) .unset .unset .unset) [(.ref b12)])) _
    refine XS.astore X13.here hx rfl (hb hby at_78) rfl rfl (l' := (own_P p1 p2 p3 p4 q5 q6 (.val (.int (p1 &&& (3 : Int32)))) (.val (.ref sI)) (.val (.ref s0)) (.val (.ref s1)) (.val (.ref s2)) (.val (.ref s3)) (.val (.ref b12)) .unset .unset)) rfl ?_
    refine XS.iload X13.here hx rfl (hb hby at_80) rfl ?_
    refine XS.ifNo X13.here hx rfl (hb hby at_82) rfl ((if0 _ _).trans (tlt hc82).2.2.2) ?_
    refine XS.aload X13.here hx rfl (hb hby at_85) rfl rfl ?_
    show Steps _ _ _ (T13.setTop (mkF m 87 (own_P p1 p2 p3 p4 q5 q6 (.val (.int (p1 &&& (3 : Int32)))) (.val (.ref sI)) (.val (.ref s0)) (.val (.ref s1)) (.val (.ref s2)) (.val (.ref s3)) (.val (.ref b12)) .unset .unset) [(.ref b12)])) _
    refine st14 _ ?_
    show Steps _ _ _ (T14.setTop (mkF m 90 (own_P p1 p2 p3 p4 q5 q6 (.val (.int (p1 &&& (3 : Int32)))) (.val (.ref sI)) (.val (.ref s0)) (.val (.ref s1)) (.val (.ref s2)) (.val (.ref s3)) (.val (.ref b12)) .unset .unset) [(.ref b14), (.ref b12)])) _
    refine XS.dup X14.here hx rfl (hb hby at_90) rfl rfl ?_
    refine XS.aload X14.here hx rfl (hb hby at_91) rfl rfl ?_
    refine XS.aload X14.here hx rfl (hb hby at_93) rfl rfl ?_
    refine XS.aload X14.here hx rfl (hb hby at_95) rfl rfl ?_
    show Steps _ _ _ (T14.setTop (mkF m 97 (own_P p1 p2 p3 p4 q5 q6 (.val (.int (p1 &&& (3 : Int32)))) (.val (.ref sI)) (.val (.ref s0)) (.val (.ref s1)) (.val (.ref s2)) (.val (.ref s3)) (.val (.ref b12)) .unset .unset) [(.ref s2), (.ref s1), (.ref s0), (.ref b14), (.ref b14), (.ref b12)])) _
    refine XS.aload X14.here hx rfl (hb hby at_97) rfl rfl ?_
    show Steps _ _ _ (T14.setTop (mkF m 99 (own_P p1 p2 p3 p4 q5 q6 (.val (.int (p1 &&& (3 : Int32)))) (.val (.ref sI)) (.val (.ref s0)) (.val (.ref s1)) (.val (.ref s2)) (.val (.ref s3)) (.val (.ref b12)) .unset .unset) [(.ref s3), (.ref s2), (.ref s1), (.ref s0), (.ref b14), (.ref b14), (.ref b12)])) _
    refine st15.trans ?_
    show Steps _ _ _ (T15.setTop (mkF m 102 (own_P p1 p2 p3 p4 q5 q6 (.val (.int (p1 &&& (3 : Int32)))) (.val (.ref sI)) (.val (.ref s0)) (.val (.ref s1)) (.val (.ref s2)) (.val (.ref s3)) (.val (.ref b12)) .unset .unset) [(.ref b14), (.ref b12)])) _
    refine st16.trans ?_
    show Steps _ _ _ (T16.setTop (mkF m 107 (own_P p1 p2 p3 p4 q5 q6 (.val (.int (p1 &&& (3 : Int32)))) (.val (.ref sI)) (.val (.ref s0)) (.val (.ref s1)) (.val (.ref s2)) (.val (.ref s3)) (.val (.ref b12)) .unset .unset) [(.int (1 : Int32))])) _
    refine XS.pop X16.here hx rfl (hb hby at_107) rfl rfl ?_
    refine XS.iload X16.here hx rfl (hb hby at_108) rfl ?_
    refine XS.iconst X16.here hx rfl (hb hby at_110) ?_
    refine XS.icmpYes X16.here hx rfl (pc0 := 111) (pc' := 137) rfl (hb hby at_111) rfl (flt hc111).2.2.2 (by decide) (by decide) ?_
    show Steps _ _ _ (T16.setTop (mkF m 137 (own_P p1 p2 p3 p4 q5 q6 (.val (.int (p1 &&& (3 : Int32)))) (.val (.ref sI)) (.val (.ref s0)) (.val (.ref s1)) (.val (.ref s2)) (.val (.ref s3)) (.val (.ref b12)) .unset .unset) [])) _
    refine XS.iload X16.here hx rfl (hb hby at_137) rfl ?_
    refine XS.iconst X16.here hx rfl (hb hby at_139) ?_
    refine XS.icmpYes X16.here hx rfl (pc0 := 140) (pc' := 166) rfl (hb hby at_140) rfl (flt hc140).2.2.2 (by decide) (by decide) ?_
    show Steps _ _ _ (T16.setTop (mkF m 166 (own_P p1 p2 p3 p4 q5 q6 (.val (.int (p1 &&& (3 : Int32)))) (.val (.ref sI)) (.val (.ref s0)) (.val (.ref s1)) (.val (.ref s2)) (.val (.ref s3)) (.val (.ref b12)) .unset .unset) [])) _
    refine st17 _ ?_
    show Steps _ _ _ (T17.setTop (mkF m 169 (own_P p1 p2 p3 p4 q5 q6 (.val (.int (p1 &&& (3 : Int32)))) (.val (.ref sI)) (.val (.ref s0)) (.val (.ref s1)) (.val (.ref s2)) (.val (.ref s3)) (.val (.ref b12)) .unset .unset) [(.ref b17)])) _
    refine XS.dup X17.here hx rfl (hb hby at_169) rfl rfl ?_
    show Steps _ _ _ (T17.setTop (mkF m 170 (own_P p1 p2 p3 p4 q5 q6 (.val (.int (p1 &&& (3 : Int32)))) (.val (.ref sI)) (.val (.ref s0)) (.val (.ref s1)) (.val (.ref s2)) (.val (.ref s3)) (.val (.ref b12)) .unset .unset) [(.ref b17), (.ref b17)])) _
    refine st18.trans ?_
    show Steps _ _ _ (T18.setTop (mkF m 173 (own_P p1 p2 p3 p4 q5 q6 (.val (.int (p1 &&& (3 : Int32)))) (.val (.ref sI)) (.val (.ref s0)) (.val (.ref s1)) (.val (.ref s2)) (.val (.ref s3)) (.val (.ref b12)) .unset .unset) [(.ref b17)])) _
    refine XS.astore X18.here hx rfl (hb hby at_173) rfl rfl (l' := (own_P p1 p2 p3 p4 q5 q6 (.val (.int (p1 &&& (3 : Int32)))) (.val (.ref sI)) (.val (.ref s0)) (.val (.ref s1)) (.val (.ref s2)) (.val (.ref s3)) (.val (.ref b12)) (.val (.ref b17)) .unset)) rfl ?_
    refine XS.aload X18.here hx rfl (hb hby at_175) rfl rfl ?_
    refine XS.lload X18.here hx rfl (hb hby at_177) rfl ?_
    show Steps _ _ _ (T18.setTop (mkF m 179 (own_P p1 p2 p3 p4 q5 q6 (.val (.int (p1 &&& (3 : Int32)))) (.val (.ref sI)) (.val (.ref s0)) (.val (.ref s1)) (.val (.ref s2)) (.val (.ref s3)) (.val (.ref b12)) (.val (.ref b17)) .unset) [(.long q5), (.ref b17)])) _
    refine st19 _ ?_
    show Steps _ _ _ (T19.setTop (mkF m 182 (own_P p1 p2 p3 p4 q5 q6 (.val (.int (p1 &&& (3 : Int32)))) (.val (.ref sI)) (.val (.ref s0)) (.val (.ref s1)) (.val (.ref s2)) (.val (.ref s3)) (.val (.ref b12)) (.val (.ref b17)) .unset) [(.ref bV), (.ref b17)])) _
    refine st20.trans ?_
    show Steps _ _ _ (T20.setTop (mkF m 187 (own_P p1 p2 p3 p4 q5 q6 (.val (.int (p1 &&& (3 : Int32)))) (.val (.ref sI)) (.val (.ref s0)) (.val (.ref s1)) (.val (.ref s2)) (.val (.ref s3)) (.val (.ref b12)) (.val (.ref b17)) .unset) [(.int (1 : Int32))])) _
    refine XS.pop X20.here hx rfl (hb hby at_187) rfl rfl ?_
    show Steps _ _ _ (T20.setTop (mkF m 188 (own_P p1 p2 p3 p4 q5 q6 (.val (.int (p1 &&& (3 : Int32)))) (.val (.ref sI)) (.val (.ref s0)) (.val (.ref s1)) (.val (.ref s2)) (.val (.ref s3)) (.val (.ref b12)) (.val (.ref b17)) .unset) [])) _
    refine st21 _ ?_
    show Steps _ _ _ (T21.setTop (mkF m 191 (own_P p1 p2 p3 p4 q5 q6 (.val (.int (p1 &&& (3 : Int32)))) (.val (.ref sI)) (.val (.ref s0)) (.val (.ref s1)) (.val (.ref s2)) (.val (.ref s3)) (.val (.ref b12)) (.val (.ref b17)) .unset) [(.ref b21)])) _
    refine XS.dup X21.here hx rfl (hb hby at_191) rfl rfl ?_
    show Steps _ _ _ (T21.setTop (mkF m 192 (own_P p1 p2 p3 p4 q5 q6 (.val (.int (p1 &&& (3 : Int32)))) (.val (.ref sI)) (.val (.ref s0)) (.val (.ref s1)) (.val (.ref s2)) (.val (.ref s3)) (.val (.ref b12)) (.val (.ref b17)) .unset) [(.ref b21), (.ref b21)])) _
    refine st22 _ ?_
    show Steps _ _ _ (T22.setTop (mkF m 195 (own_P p1 p2 p3 p4 q5 q6 (.val (.int (p1 &&& (3 : Int32)))) (.val (.ref sI)) (.val (.ref s0)) (.val (.ref s1)) (.val (.ref s2)) (.val (.ref s3)) (.val (.ref b12)) (.val (.ref b17)) .unset) [(.ref b22), (.ref b21), (.ref b21)])) _
    refine XS.dup X22.here hx rfl (hb hby at_195) rfl rfl ?_
    refine XS.aload X22.here hx rfl (hb hby at_196) rfl rfl ?_
    refine XS.aload X22.here hx rfl (hb hby at_198) rfl rfl ?_
    show Steps _ _ _ (T22.setTop (mkF m 200 (own_P p1 p2 p3 p4 q5 q6 (.val (.int (p1 &&& (3 : Int32)))) (.val (.ref sI)) (.val (.ref s0)) (.val (.ref s1)) (.val (.ref s2)) (.val (.ref s3)) (.val (.ref b12)) (.val (.ref b17)) .unset) [(.ref b12), (.ref sI), (.ref b22), (.ref b22), (.ref b21), (.ref b21)])) _
    refine st23.trans ?_
    show Steps _ _ _ (T23.setTop (mkF m 203 (own_P p1 p2 p3 p4 q5 q6 (.val (.int (p1 &&& (3 : Int32)))) (.val (.ref sI)) (.val (.ref s0)) (.val (.ref s1)) (.val (.ref s2)) (.val (.ref s3)) (.val (.ref b12)) (.val (.ref b17)) .unset) [(.ref b22), (.ref b21), (.ref b21)])) _
    refine XS.iloadN X23.here hx rfl (hb hby at_203) rfl ?_
    refine XS.iloadN X23.here hx rfl (hb hby at_204) rfl ?_
    refine XS.lload X23.here hx rfl (hb hby at_205) rfl ?_
    refine XS.lload X23.here hx rfl (hb hby at_207) rfl ?_
    show Steps _ _ _ (T23.setTop (mkF m 209 (own_P p1 p2 p3 p4 q5 q6 (.val (.int (p1 &&& (3 : Int32)))) (.val (.ref sI)) (.val (.ref s0)) (.val (.ref s1)) (.val (.ref s2)) (.val (.ref s3)) (.val (.ref b12)) (.val (.ref b17)) .unset) [(.long q6), (.long q5), (.int p4), (.int p3), (.ref b22), (.ref b21), (.ref b21)])) _
    refine XS.aload X23.here hx rfl (hb hby at_209) rfl rfl ?_
    refine XS.aconstNull X23.here hx rfl (hb hby at_211) ?_
    refine XS.aconstNull X23.here hx rfl (hb hby at_212) ?_
    show Steps _ _ _ (T23.setTop (mkF m 213 (own_P p1 p2 p3 p4 q5 q6 (.val (.int (p1 &&& (3 : Int32)))) (.val (.ref sI)) (.val (.ref s0)) (.val (.ref s1)) (.val (.ref s2)) (.val (.ref s3)) (.val (.ref b12)) (.val (.ref b17)) .unset) [.null, .null, (.ref b17), (.long q6), (.long q5), (.int p4), (.int p3), (.ref b22), (.ref b21), (.ref b21)])) _
    refine st24 _ ?_
    show Steps _ _ _ (T24.setTop (mkF m 216 (own_P p1 p2 p3 p4 q5 q6 (.val (.int (p1 &&& (3 : Int32)))) (.val (.ref sI)) (.val (.ref s0)) (.val (.ref s1)) (.val (.ref s2)) (.val (.ref s3)) (.val (.ref b12)) (.val (.ref b17)) .unset) [(.ref b24), .null, .null, (.ref b17), (.long q6), (.long q5), (.int p4), (.int p3), (.ref b22), (.ref b21), (.ref b21)])) _
    refine XS.dup X24.here hx rfl (hb hby at_216) rfl rfl ?_
    show Steps _ _ _ (T24.setTop (mkF m 217 (own_P p1 p2 p3 p4 q5 q6 (.val (.int (p1 &&& (3 : Int32)))) (.val (.ref sI)) (.val (.ref s0)) (.val (.ref s1)) (.val (.ref s2)) (.val (.ref s3)) (.val (.ref b12)) (.val (.ref b17)) .unset) [(.ref b24), (.ref b24), .null, .null, (.ref b17), (.long q6), (.long q5), (.int p4), (.int p3), (.ref b22), (.ref b21), (.ref b21)])) _
    refine st25.trans ?_
    show Steps _ _ _ (T25.setTop (mkF m 220 (own_P p1 p2 p3 p4 q5 q6 (.val (.int (p1 &&& (3 : Int32)))) (.val (.ref sI)) (.val (.ref s0)) (.val (.ref s1)) (.val (.ref s2)) (.val (.ref s3)) (.val (.ref b12)) (.val (.ref b17)) .unset) [(.ref b24), .null, .null, (.ref b17), (.long q6), (.long q5), (.int p4), (.int p3), (.ref b22), (.ref b21), (.ref b21)])) _
    refine st26.trans ?_
    show Steps _ _ _ (T26.setTop (mkF m 223 (own_P p1 p2 p3 p4 q5 q6 (.val (.int (p1 &&& (3 : Int32)))) (.val (.ref sI)) (.val (.ref s0)) (.val (.ref s1)) (.val (.ref s2)) (.val (.ref s3)) (.val (.ref b12)) (.val (.ref b17)) .unset) [(.ref b21)])) _
    refine XS.astore X26.here hx rfl (hb hby at_223) rfl rfl (l' := (own_P p1 p2 p3 p4 q5 q6 (.val (.int (p1 &&& (3 : Int32)))) (.val (.ref sI)) (.val (.ref s0)) (.val (.ref s1)) (.val (.ref s2)) (.val (.ref s3)) (.val (.ref b12)) (.val (.ref b17)) (.val (.ref b21)))) rfl ?_
    refine XS.aload X26.here hx rfl (hb hby at_225) rfl rfl ?_
    show Steps _ _ _ (T26.setTop (mkF m 227 (own_P p1 p2 p3 p4 q5 q6 (.val (.int (p1 &&& (3 : Int32)))) (.val (.ref sI)) (.val (.ref s0)) (.val (.ref s1)) (.val (.ref s2)) (.val (.ref s3)) (.val (.ref b12)) (.val (.ref b17)) (.val (.ref b21))) [(.ref b21)])) _
    refine st27.trans ?_
    show Steps _ _ _ (T27.setTop (mkF m 230 (own_P p1 p2 p3 p4 q5 q6 (.val (.int (p1 &&& (3 : Int32)))) (.val (.ref sI)) (.val (.ref s0)) (.val (.ref s1)) (.val (.ref s2)) (.val (.ref s3)) (.val (.ref b12)) (.val (.ref b17)) (.val (.ref b21))) [(.int (1 : Int32))])) _
    refine XS.iload X27.here hx rfl (hb hby at_230) rfl ?_
    refine XS.icmpNo X27.here hx rfl (hb hby at_232) rfl (teq hc232).2 ?_
    refine XS.iconst X27.here hx rfl (hb hby at_235) ?_
    refine XS.goto X27.here hx rfl (pc0 := 236) (pc' := 240) rfl (hb hby at_236) (by decide) (by decide) ?_
    show Steps _ _ _ (T27.setTop (mkF m 240 (own_P p1 p2 p3 p4 q5 q6 (.val (.int (p1 &&& (3 : Int32)))) (.val (.ref sI)) (.val (.ref s0)) (.val (.ref s1)) (.val (.ref s2)) (.val (.ref s3)) (.val (.ref b12)) (.val (.ref b17)) (.val (.ref b21))) [(.int (1 : Int32))])) _
    exact retN X27 hx (t := .boolean) Bd.returns (by simp) (hb hby at_240) hr
  · show Q_law1 Z p1 p2 p3 p4 q5 q6 cs wD wM wL wE0 wO aM cD cE0 h0 n0 _ T27.heap _
    rw [K27]
    exact ⟨rfl, N27⟩
def Q_law2 (Z : State) (p1 : Int32) (p2 : Int32) (p3 : Int32) (p4 : Int32) (q5 : Int64) (q6 : Int64) (cs : Int32) (wD : Addr) (wM : Addr) (wL : Addr) (wE0 : Addr) (wO : Addr) (aM : Addr) (cD : Cell) (cE0 : Cell) (h0 : Heap) (n0 : Nat) (v : Option Value) (h : Heap) (L : List Loc) : Prop := v = some (.int (1 : Int32)) ∧ Fr n0 L
theorem rm_law2 (l : Launch) (Z : State) (a0 : Array Value) (hw : ∀ d ∈ tables_1, d.before a0 Z = true) (ws : List Jvm.Cond) (p1 : Int32) (p2 : Int32) (p3 : Int32) (p4 : Int32) (q5 : Int64) (q6 : Int64) (cs : Int32) (wD : Addr) (wM : Addr) (wL : Addr) (wE0 : Addr) (wO : Addr) (aM : Addr) (cD : Cell) (cE0 : Cell) (h0 : Heap) (n0 : Nat) (Z0 : n0 ≤ h0.size) (Ol : Old Z n0 h0) (S_CS : Sta Z Z.heap "java/lang/String" "COMPACT_STRINGS" "Z" (.int cs)) (hcs : ¬ (cs = (0 : Int32))) (S_DC : Sta Z Z.heap "java/util/ArrayList" "DEFAULTCAPACITY_EMPTY_ELEMENTDATA" "[Ljava/lang/Object;" (.ref wD)) (A_D : Arr Z Z.heap wD cD (.object "java/lang/Object")) (hszD : cD.slots.size = (0 : Int32).toNatClampNeg) (S_EMPTY_MAP : Sta Z Z.heap "java/util/ImmutableCollections" "EMPTY_MAP" "Ljava/util/ImmutableCollections$MapN;" (.ref wM)) (E_M : Exa Z Z.heap wM "java/util/ImmutableCollections$MapN") (F_M : Fld Z Z.heap wM "java/util/ImmutableCollections$MapN" "size" "I" (.int (0 : Int32))) (S_EMPTY_LIST : Sta Z Z.heap "java/util/ImmutableCollections" "EMPTY_LIST" "Ljava/util/ImmutableCollections$ListN;" (.ref wL)) (E_L : Exa Z Z.heap wL "java/util/ImmutableCollections$ListN") (F_L : Fld Z Z.heap wL "java/util/ImmutableCollections$ListN" "elements" "[Ljava/lang/Object;" (.ref wE0)) (A_L : Arr Z Z.heap wE0 cE0 (.object "java/lang/Object")) (hszL : cE0.slots.size = (0 : Int32).toNatClampNeg) (S_EMPTY : Sta Z Z.heap "java/util/ImmutableCollections" "EMPTY" "Ljava/lang/Object;" (.ref wO)) (E_O : Exa Z Z.heap wO "java/lang/Object") (Mr : own_mir Z "[Ljava/lang/Object;" aM) (HL : ∀ (h0 : Heap), n0 ≤ h0.size → Old Z n0 h0 → MetFree l own_y1 (head1 (Jvm.Cond.code own_y1 jdk_35_method_24_code 3 (some (.object "java/lang/Long")) :: []) own_r1) (fun a U => a = #[(.long q5)] ∧ Z.Warmed39 U.vm ∧ U.heap = h0) (fun _ _ _ _ _ => True) (fun _ U o U' => ∃ v L, o = .returned v ∧ Q_lv Z h0 n0 v U'.heap L ∧ FrameEnd  U o U' L own_r1.cells own_r1.slots)) (hc82 : (0 : Int32) < (p1 &&& (3 : Int32))) (hc111 : (1 : Int32) < (p1 &&& (3 : Int32))) (hc140 : ¬ ((2 : Int32) < (p1 &&& (3 : Int32)))) (hc232 : (2 : Int32) = (p1 &&& (3 : Int32))) :
    MetFree l x (head1 (Jvm.Cond.code x code maxLocals ret :: ws) room_1) (fun a U => a = #[(.int p1), (.int p2), (.int p3), (.int p4), (.long q5), (.long q6)] ∧ Z.Warmed39 U.vm ∧ U.heap = h0) (fun _ _ _ _ _ => True) (fun _ U o U' => ∃ v L, o = .returned v ∧ Q_law2 Z p1 p2 p3 p4 q5 q6 cs wD wM wL wE0 wO aM cD cE0 h0 n0 v U'.heap L ∧ ReturnedEndW U o U' L room_1.cells room_1.slots) := by
  refine MetFree.of_bodySF (plainFor_of_name pn_0) hisR ?_
  intro p e s m args below meth c s₁ Bd hml0 hP hK
  obtain ⟨rfl, hZ, hh⟩ := hP
  have hx := Bd.exec
  have hby := Bd.bytes
  have hml : c.maxLocals = 17 := hml0
  have hown : s.vm.findClass "com/example/arcrover/arcrover/ExplorationTransitionsPinLaw" = some m.cls := findClass_of_methodNamed Bd.named
  have hnm := (name_of_methodNamed Bd.named Bd.method).1
  have X0 : Stand p l e room_1 (s.setVm s.vm) m #[(.int p1), (.int p2), (.int p3), (.int p4), (.long q5), (.long q6)] below meth c s₁ [] 0 0 := Stand.of_body Bd
  have hS : s.Since s.vm s.heap.size := (State.WarmedH.refl s).since s.heap.size
  have hk : s.heap.size ≤ h0.size := Nat.le_of_eq (congrArg Array.size hh)
  have e0 : s₁.heap = h0 := by rw [← hh, Bd.state]; rfl
  have N0 := Fr.nil n0
  have pre0 : ∀ t, Steps p.tables e below (s₁.setTop (mkF m 0 (own_P p1 p2 p3 p4 q5 q6 .unset .unset .unset .unset .unset .unset .unset .unset .unset) [])) t → Steps p.tables e below (s₁.setTop (entryFrame m #[(.int p1), (.int p2), (.int p3), (.int p4), (.long q5), (.long q6)] maxLocals)) t := fun t k => castTop (ef_0 m p1 p2 p3 p4 q5 q6) k
  obtain ⟨_, _, ⟨T7, L7, k7, n7⟩, -, X7, ⟨Lc7, hQ7, l7, y7, z7⟩, st7⟩ := Jvm.LawKit.callS X0 hx (y := own_y0) hown (mvT hZ (own_w hw 0 rfl)) (mvT hZ (own_w hw 1 rfl)) (mvT hZ (own_w hw 2 rfl)) (mvT hZ (own_w hw 3 rfl)) (by decide) (backOf (W := 0) (rm_vof l Z a0 hw [] ((((p1.toUInt32 >>> ((2 : Int32) &&& 31).toUInt32).toInt32) &&& (255 : Int32)).toUInt32.toUInt16.toUInt32.toInt32) cs h0 n0 Z0 Ol S_CS (own_c255 _) hcs) hZ (own_w hw 3 rfl) (own_w hw 2 rfl) (by decide) (by decide)) (g := (mkF m 13 (own_P p1 p2 p3 p4 q5 q6 (.val (.int (p1 &&& (3 : Int32)))) .unset .unset .unset .unset .unset .unset .unset .unset) [(.int ((((p1.toUInt32 >>> ((2 : Int32) &&& 31).toUInt32).toInt32) &&& (255 : Int32)).toUInt32.toUInt16.toUInt32.toInt32))])) rfl (by rw [hml]; rfl) (argsL := [(.int ((((p1.toUInt32 >>> ((2 : Int32) &&& 31).toUInt32).toInt32) &&& (255 : Int32)).toUInt32.toUInt16.toUInt32.toInt32))]) (rest := []) (lenOf pd_0_0 rfl) rfl (Nat.le_of_eq rfl) (hb hby at_13) (fun _ _ => ⟨rfl, e0, (by decide : 0 + 2 ≤ _), (by decide : 0 + 5 ≤ _)⟩)
  dsimp only [Pt.U, Pt.locs, Pt.cells, Pt.slots] at X7 l7 y7 z7 st7 hQ7
  subst l7 y7 z7
  obtain ⟨sI, rfl, N7q, Ex7⟩ := hQ7
  have N7 := Fr.app N0 N7q
  have Kc7 : Keep h0 T7.heap [] := (Keep.refl h0 []).ext Ex7
  have Ol := (Ol.ext Ex7)
  have Z0 : n0 ≤ _ := (Nat.le_trans Z0 Ex7.1)
  obtain ⟨_, _, ⟨T8, L8, k8, n8⟩, -, X8, ⟨Lc8, hQ8, l8, y8, z8⟩, st8⟩ := Jvm.LawKit.callS X7 hx (y := own_y0) hown (mvT hZ (own_w hw 0 rfl)) (mvT hZ (own_w hw 1 rfl)) (mvT hZ (own_w hw 2 rfl)) (mvT hZ (own_w hw 3 rfl)) (by decide) (backOf (W := 0) (rm_vof l Z a0 hw [] ((p2 &&& (255 : Int32)).toUInt32.toUInt16.toUInt32.toInt32) cs T7.heap n0 Z0 Ol S_CS (own_c255 _) hcs) hZ (own_w hw 3 rfl) (own_w hw 2 rfl) (by decide) (by decide)) (g := (mkF m 24 (own_P p1 p2 p3 p4 q5 q6 (.val (.int (p1 &&& (3 : Int32)))) (.val (.ref sI)) .unset .unset .unset .unset .unset .unset .unset) [(.int ((p2 &&& (255 : Int32)).toUInt32.toUInt16.toUInt32.toInt32))])) rfl (by rw [hml]; rfl) (argsL := [(.int ((p2 &&& (255 : Int32)).toUInt32.toUInt16.toUInt32.toInt32))]) (rest := []) (lenOf pd_0_0 rfl) rfl (Nat.le_of_eq rfl) (hb hby at_24) (fun _ _ => ⟨rfl, rfl, (by decide : 2 + 2 ≤ _), (by decide : 5 + 5 ≤ _)⟩)
  dsimp only [Pt.U, Pt.locs, Pt.cells, Pt.slots] at X8 l8 y8 z8 st8 hQ8
  subst l8 y8 z8
  obtain ⟨s0, rfl, N8q, Ex8⟩ := hQ8
  have N8 := Fr.app N7 N8q
  have Kc8 : Keep h0 T8.heap [] := Kc7.ext Ex8
  have Ol := (Ol.ext Ex8)
  have Z0 : n0 ≤ _ := (Nat.le_trans Z0 Ex8.1)
  obtain ⟨_, _, ⟨T9, L9, k9, n9⟩, -, X9, ⟨Lc9, hQ9, l9, y9, z9⟩, st9⟩ := Jvm.LawKit.callS X8 hx (y := own_y0) hown (mvT hZ (own_w hw 0 rfl)) (mvT hZ (own_w hw 1 rfl)) (mvT hZ (own_w hw 2 rfl)) (mvT hZ (own_w hw 3 rfl)) (by decide) (backOf (W := 0) (rm_vof l Z a0 hw [] ((((p2.toUInt32 >>> ((8 : Int32) &&& 31).toUInt32).toInt32) &&& (255 : Int32)).toUInt32.toUInt16.toUInt32.toInt32) cs T8.heap n0 Z0 Ol S_CS (own_c255 _) hcs) hZ (own_w hw 3 rfl) (own_w hw 2 rfl) (by decide) (by decide)) (g := (mkF m 38 (own_P p1 p2 p3 p4 q5 q6 (.val (.int (p1 &&& (3 : Int32)))) (.val (.ref sI)) (.val (.ref s0)) .unset .unset .unset .unset .unset .unset) [(.int ((((p2.toUInt32 >>> ((8 : Int32) &&& 31).toUInt32).toInt32) &&& (255 : Int32)).toUInt32.toUInt16.toUInt32.toInt32))])) rfl (by rw [hml]; rfl) (argsL := [(.int ((((p2.toUInt32 >>> ((8 : Int32) &&& 31).toUInt32).toInt32) &&& (255 : Int32)).toUInt32.toUInt16.toUInt32.toInt32))]) (rest := []) (lenOf pd_0_0 rfl) rfl (Nat.le_of_eq rfl) (hb hby at_38) (fun _ _ => ⟨rfl, rfl, (by decide : 4 + 2 ≤ _), (by decide : 10 + 5 ≤ _)⟩)
  dsimp only [Pt.U, Pt.locs, Pt.cells, Pt.slots] at X9 l9 y9 z9 st9 hQ9
  subst l9 y9 z9
  obtain ⟨s1, rfl, N9q, Ex9⟩ := hQ9
  have N9 := Fr.app N8 N9q
  have Kc9 : Keep h0 T9.heap [] := Kc8.ext Ex9
  have Ol := (Ol.ext Ex9)
  have Z0 : n0 ≤ _ := (Nat.le_trans Z0 Ex9.1)
  obtain ⟨_, _, ⟨T10, L10, k10, n10⟩, -, X10, ⟨Lc10, hQ10, l10, y10, z10⟩, st10⟩ := Jvm.LawKit.callS X9 hx (y := own_y0) hown (mvT hZ (own_w hw 0 rfl)) (mvT hZ (own_w hw 1 rfl)) (mvT hZ (own_w hw 2 rfl)) (mvT hZ (own_w hw 3 rfl)) (by decide) (backOf (W := 0) (rm_vof l Z a0 hw [] ((((p2.toUInt32 >>> ((16 : Int32) &&& 31).toUInt32).toInt32) &&& (255 : Int32)).toUInt32.toUInt16.toUInt32.toInt32) cs T9.heap n0 Z0 Ol S_CS (own_c255 _) hcs) hZ (own_w hw 3 rfl) (own_w hw 2 rfl) (by decide) (by decide)) (g := (mkF m 52 (own_P p1 p2 p3 p4 q5 q6 (.val (.int (p1 &&& (3 : Int32)))) (.val (.ref sI)) (.val (.ref s0)) (.val (.ref s1)) .unset .unset .unset .unset .unset) [(.int ((((p2.toUInt32 >>> ((16 : Int32) &&& 31).toUInt32).toInt32) &&& (255 : Int32)).toUInt32.toUInt16.toUInt32.toInt32))])) rfl (by rw [hml]; rfl) (argsL := [(.int ((((p2.toUInt32 >>> ((16 : Int32) &&& 31).toUInt32).toInt32) &&& (255 : Int32)).toUInt32.toUInt16.toUInt32.toInt32))]) (rest := []) (lenOf pd_0_0 rfl) rfl (Nat.le_of_eq rfl) (hb hby at_52) (fun _ _ => ⟨rfl, rfl, (by decide : 6 + 2 ≤ _), (by decide : 15 + 5 ≤ _)⟩)
  dsimp only [Pt.U, Pt.locs, Pt.cells, Pt.slots] at X10 l10 y10 z10 st10 hQ10
  subst l10 y10 z10
  obtain ⟨s2, rfl, N10q, Ex10⟩ := hQ10
  have N10 := Fr.app N9 N10q
  have Kc10 : Keep h0 T10.heap [] := Kc9.ext Ex10
  have Ol := (Ol.ext Ex10)
  have Z0 : n0 ≤ _ := (Nat.le_trans Z0 Ex10.1)
  obtain ⟨_, _, ⟨T11, L11, k11, n11⟩, -, X11, ⟨Lc11, hQ11, l11, y11, z11⟩, st11⟩ := Jvm.LawKit.callS X10 hx (y := own_y0) hown (mvT hZ (own_w hw 0 rfl)) (mvT hZ (own_w hw 1 rfl)) (mvT hZ (own_w hw 2 rfl)) (mvT hZ (own_w hw 3 rfl)) (by decide) (backOf (W := 0) (rm_vof l Z a0 hw [] ((((p2.toUInt32 >>> ((24 : Int32) &&& 31).toUInt32).toInt32) &&& (255 : Int32)).toUInt32.toUInt16.toUInt32.toInt32) cs T10.heap n0 Z0 Ol S_CS (own_c255 _) hcs) hZ (own_w hw 3 rfl) (own_w hw 2 rfl) (by decide) (by decide)) (g := (mkF m 66 (own_P p1 p2 p3 p4 q5 q6 (.val (.int (p1 &&& (3 : Int32)))) (.val (.ref sI)) (.val (.ref s0)) (.val (.ref s1)) (.val (.ref s2)) .unset .unset .unset .unset) [(.int ((((p2.toUInt32 >>> ((24 : Int32) &&& 31).toUInt32).toInt32) &&& (255 : Int32)).toUInt32.toUInt16.toUInt32.toInt32))])) rfl (by rw [hml]; rfl) (argsL := [(.int ((((p2.toUInt32 >>> ((24 : Int32) &&& 31).toUInt32).toInt32) &&& (255 : Int32)).toUInt32.toUInt16.toUInt32.toInt32))]) (rest := []) (lenOf pd_0_0 rfl) rfl (Nat.le_of_eq rfl) (hb hby at_66) (fun _ _ => ⟨rfl, rfl, (by decide : 8 + 2 ≤ _), (by decide : 20 + 5 ≤ _)⟩)
  dsimp only [Pt.U, Pt.locs, Pt.cells, Pt.slots] at X11 l11 y11 z11 st11 hQ11
  subst l11 y11 z11
  obtain ⟨s3, rfl, N11q, Ex11⟩ := hQ11
  have N11 := Fr.app N10 N11q
  have Kc11 : Keep h0 T11.heap [] := Kc10.ext Ex11
  obtain ⟨T12, h12, X12, e12, E12, A12, D12, -, st12⟩ := newO X11 hx hZ hown (own_w hw 26 rfl) (own_w hw 27 rfl) (own_w hw 28 rfl) rfl (g := (mkF m 71 (own_P p1 p2 p3 p4 q5 q6 (.val (.int (p1 &&& (3 : Int32)))) (.val (.ref sI)) (.val (.ref s0)) (.val (.ref s1)) (.val (.ref s2)) (.val (.ref s3)) .unset .unset .unset) [])) rfl (hb hby at_71) (by decide) (by decide)
  obtain ⟨b12, g12⟩ : ∃ z, z = T11.heap.size := ⟨_, rfl⟩
  rw [← g12] at A12 D12 st12
  have F_modCount_b12 : Fld Z h12 b12 "java/util/AbstractList" "modCount" "I" (.int (0 : Int32)) := D12 (Or.inl (own_w hw 46 rfl)) (ty := .int) (by decide)
  have F_elementData_b12 : Fld Z h12 b12 "java/util/ArrayList" "elementData" "[Ljava/lang/Object;" .null := D12 (Or.inl (own_w hw 49 rfl)) (ty := (.array (.object "java/lang/Object"))) (by decide)
  have F_size_b12 : Fld Z h12 b12 "java/util/ArrayList" "size" "I" (.int (0 : Int32)) := D12 (Or.inl (own_w hw 82 rfl)) (ty := .int) (by decide)
  have E_b12 := A12
  have g_b12 : n0 ≤ b12 := Nat.le_trans (Nat.le_trans Z0 Ex11.1) (Nat.le_of_eq g12.symm)
  have sz_b12 : h0.size ≤ b12 := (Nat.le_trans Kc11.1 (Nat.le_of_eq g12.symm))
  have K12 : Keep h0 h12 [] := Kc11.ext E12
  have Ol := ((Ol.ext Ex11).ext E12)
  have Z0 : n0 ≤ _ := (Nat.le_trans (Nat.le_trans Z0 Ex11.1) E12.1)
  obtain ⟨_, _, ⟨T13, L13, k13, n13⟩, -, X13, ⟨Lc13, hQ13, l13, y13, z13⟩, st13⟩ := X12.specialBack hx (y := own_y3) rfl hown (mvT hZ (own_w hw 29 rfl)) (mvT hZ (own_w hw 30 rfl)) (mvT hZ (own_w hw 31 rfl)) (by decide) (backOf (W := 1) (rm_al l Z a0 hw [] b12 wD _ _ _ h12 n0 Z0 Ol S_DC E_b12 F_elementData_b12 F_size_b12 F_modCount_b12 g_b12) hZ (own_w hw 31 rfl) (own_w hw 28 rfl) (by decide) (by decide)) (g := (mkF m 75 (own_P p1 p2 p3 p4 q5 q6 (.val (.int (p1 &&& (3 : Int32)))) (.val (.ref sI)) (.val (.ref s0)) (.val (.ref s1)) (.val (.ref s2)) (.val (.ref s3)) .unset .unset .unset) [(.ref b12), (.ref b12)])) rfl (by rw [hml]; rfl) (Steps.refl _) (a := b12) (argsL := []) (rest := [(.ref b12)]) (lenOf pd_0_4 rfl) rfl (Nat.le_of_eq rfl) (hb hby at_75) (fun _ _ => ⟨rfl, e12, (by decide : 11 + 0 ≤ _), (by decide : 28 + 0 ≤ _)⟩)
  dsimp only [Pt.U, Pt.locs, Pt.cells, Pt.slots] at X13 l13 y13 z13 st13 hQ13
  subst l13 y13 z13
  obtain ⟨rfl, N13q, K13, El_b12, Fel_b12, Fsl_b12, Fml_b12⟩ := hQ13
  have N13 := Fr.app N11 N13q
  have Kc13 : Keep h0 T13.heap [] := K12.trans K13 (allS (Or.inr sz_b12) all0)
  obtain ⟨T14, h14, X14, e14, E14, A14, D14, -, st14⟩ := newO X13 hx hZ hown (own_w hw 292 rfl) (own_w hw 293 rfl) (own_w hw 294 rfl) rfl (g := (mkF m 87 (own_P p1 p2 p3 p4 q5 q6 (.val (.int (p1 &&& (3 : Int32)))) (.val (.ref sI)) (.val (.ref s0)) (.val (.ref s1)) (.val (.ref s2)) (.val (.ref s3)) (.val (.ref b12)) .unset .unset) [(.ref b12)])) rfl (hb hby at_87) (by decide) (by decide)
  obtain ⟨b14, g14⟩ : ∃ z, z = T13.heap.size := ⟨_, rfl⟩
  rw [← g14] at A14 D14 st14
  have F_source_b14 : Fld Z h14 b14 "com/example/arcrover/arcrover/Transition" "source" "Ljava/lang/String;" .null := D14 (Or.inr (own_w hw 305 rfl)) (ty := (.object "java/lang/String")) (by decide)
  have F_stimulus_b14 : Fld Z h14 b14 "com/example/arcrover/arcrover/Transition" "stimulus" "Ljava/lang/String;" .null := D14 (Or.inr (own_w hw 307 rfl)) (ty := (.object "java/lang/String")) (by decide)
  have F_reaction_b14 : Fld Z h14 b14 "com/example/arcrover/arcrover/Transition" "reaction" "Ljava/lang/String;" .null := D14 (Or.inr (own_w hw 309 rfl)) (ty := (.object "java/lang/String")) (by decide)
  have F_target_b14 : Fld Z h14 b14 "com/example/arcrover/arcrover/Transition" "target" "Ljava/lang/String;" .null := D14 (Or.inr (own_w hw 311 rfl)) (ty := (.object "java/lang/String")) (by decide)
  have E_b14 := A14
  have g_b14 : n0 ≤ b14 := Nat.le_trans (Nat.le_trans Z0 K13.1) (Nat.le_of_eq g14.symm)
  have sz_b14 : h0.size ≤ b14 := (Nat.le_trans Kc13.1 (Nat.le_of_eq g14.symm))
  have K14 : Keep h0 h14 [] := Kc13.ext E14
  have Z0 : n0 ≤ _ := (Nat.le_trans (Nat.le_trans Z0 K13.1) E14.1)
  obtain ⟨_, _, ⟨T15, L15, k15, n15⟩, -, X15, hSn15, hGr15, ⟨Lc15, hQ15, l15, y15, z15⟩, st15⟩ := X14.specialBackS hx (y := own_y19) rfl hown (mvT hZ (own_w hw 295 rfl)) (mvT hZ (own_w hw 296 rfl)) (mvT hZ (own_w hw 297 rfl)) (by decide) (backOfS (W := 2) (rm_tinit l Z a0 hw [] b14 s0 s1 s2 s3 _ _ _ _ h14 n0 Z0 E_b14 F_source_b14 g_b14 F_stimulus_b14 F_reaction_b14 F_target_b14) hZ (own_w hw 297 rfl) (own_w hw 294 rfl) (by decide) (by decide)) (g := (mkF m 99 (own_P p1 p2 p3 p4 q5 q6 (.val (.int (p1 &&& (3 : Int32)))) (.val (.ref sI)) (.val (.ref s0)) (.val (.ref s1)) (.val (.ref s2)) (.val (.ref s3)) (.val (.ref b12)) .unset .unset) [(.ref s3), (.ref s2), (.ref s1), (.ref s0), (.ref b14), (.ref b14), (.ref b12)])) rfl (by rw [hml]; rfl) (Steps.refl _) (a := b14) (argsL := [(.ref s0), (.ref s1), (.ref s2), (.ref s3)]) (rest := [(.ref b14), (.ref b12)]) (lenOf pd_0_29 rfl) rfl (Nat.le_of_eq rfl) (hb hby at_99) (fun _ _ => ⟨rfl, e14, (by decide : 12 + 8 ≤ _), (by decide : 32 + 128 ≤ _)⟩)
  dsimp only [Pt.U, Pt.locs, Pt.cells, Pt.slots] at X15 l15 y15 z15 st15 hQ15 hSn15 hGr15
  subst l15 y15 z15
  obtain ⟨rfl, N15q, K15, Ea15⟩ := hQ15
  have N15 := Fr.app N13 N15q
  replace X15 : Stand p l e _ (s.setVm T15.vm) m _ below meth c T15 _ _ _ := X15
  have hS := hS.trans hSn15 (Nat.le_trans (by rw [e14]; exact (Nat.le_trans (Nat.le_trans (Nat.le_trans (Nat.le_trans (Nat.le_trans (Nat.le_trans (Nat.le_trans (Nat.le_trans hk Ex7.1) Ex8.1) Ex9.1) Ex10.1) Ex11.1) E12.1) K13.1) E14.1)) hGr15)
  have hk : T15.heap.size ≤ T15.heap.size := Nat.le_refl _
  have hZ := State.Warmed39.trans (t := s.setVm _) hZ hSn15.1
  have hown : (s.setVm T15.vm).vm.findClass "com/example/arcrover/arcrover/ExplorationTransitionsPinLaw" = some m.cls := by rw [show (s.setVm T15.vm).vm = T15.vm from rfl, hSn15.1.alike.findClass]; exact hown
  have Kc15 : Keep h0 T15.heap [] := K14.trans K15 (allS (Or.inr sz_b14) all0)
  have f2 := ((El_b12.ext E14).keep K15)
  have f3 := ((Fel_b12.ext E14).keep K15 (ninS (Nat.ne_of_lt (Nat.lt_of_lt_of_le El_b12.lt (Nat.le_of_eq g14.symm))) (nin0)))
  have f4 := ((Fsl_b12.ext E14).keep K15 (ninS (Nat.ne_of_lt (Nat.lt_of_lt_of_le El_b12.lt (Nat.le_of_eq g14.symm))) (nin0)))
  have f5 := ((Fml_b12.ext E14).keep K15 (ninS (Nat.ne_of_lt (Nat.lt_of_lt_of_le El_b12.lt (Nat.le_of_eq g14.symm))) (nin0)))
  have Ol := (((Ol.keep K13 (allS g_b12 all0)).ext E14).keep K15 (allS g_b14 all0))
  have Z0 : n0 ≤ _ := (Nat.le_trans Z0 K15.1)
  have f1 := ((El_b12.ext E14).keep K15)
  obtain ⟨cq16, kq16, q16a, q16b, q16c⟩ := isOf hZ rfl f1
  obtain ⟨_, _, ⟨T16, L16, k16, n16⟩, -, X16, ⟨Lc16, hQ16, l16, y16, z16⟩, st16⟩ := X15.interfaceBack hx (xi := own_y11) (y := own_y4) hown (mvT hZ (own_w hw 70 rfl)) (mvT hZ (own_w hw 71 rfl)) (mvT hZ (own_w hw 72 rfl)) (mvT hZ (own_w hw 73 rfl)) (mvT hZ (own_w hw 74 rfl)) (mvT hZ (own_w hw 75 rfl)) (mvT hZ (own_w hw 76 rfl)) (mvT hZ (own_w hw 77 rfl)) (by decide) (backOf (W := 0) (rm_adda l Z a0 hw [] b12 b14 wD (0 : Int32) (0 : Int32) cD T15.heap n0 Z0 Ol S_DC f2 f3 f4 f5 (A_D.ext (Ol).2) hszD g_b12 (by decide) (Ins.of_exa Ea15 (own_w hw 312 rfl)) ((Ol).ne A_D.lt g_b12) rfl (by decide) (by decide)) hZ (own_w hw 78 rfl) (own_w hw 28 rfl) (by decide) (by decide)) q16a q16b q16c (g := (mkF m 102 (own_P p1 p2 p3 p4 q5 q6 (.val (.int (p1 &&& (3 : Int32)))) (.val (.ref sI)) (.val (.ref s0)) (.val (.ref s1)) (.val (.ref s2)) (.val (.ref s3)) (.val (.ref b12)) .unset .unset) [(.ref b14), (.ref b12)])) rfl (by rw [hml]; rfl) (Steps.refl _) (argsL := [(.ref b14)]) (rest := []) (lenOf pd_0_7 rfl) rfl (Nat.le_of_eq rfl) (hb hby at_102) (fun _ _ => ⟨rfl, rfl, (by decide : 20 + 1 ≤ _), (by decide : 160 + 10 ≤ _)⟩)
  dsimp only [Pt.U, Pt.locs, Pt.cells, Pt.slots] at X16 l16 y16 z16 st16 hQ16
  subst l16 y16 z16
  obtain ⟨bQ, kQ, rfl, N16q, Kg16, Eg_b12, Feg_b12, Fsg_b12, Fmg_b12, VQ, OQ, ggQ, szgQ, EaQ⟩ := hQ16
  have N16 := Fr.app N15 N16q
  have Kc16 : Keep h0 T16.heap [] := Kc15.trans Kg16 (allS (Or.inr sz_b12) all0)
  have hneQ : b12 ≠ bQ := by obtain ⟨c9, Ac, -⟩ := own_arr VQ; exact ne_arr Eg_b12 (own_w hw 27 rfl) Ac
  have szQ : h0.size ≤ bQ := Nat.le_trans (Kc15).1 szgQ
  obtain ⟨T17, h17, X17, e17, E17, A17, D17, -, st17⟩ := newO X16 hx hZ hown (own_w hw 292 rfl) (own_w hw 293 rfl) (own_w hw 294 rfl) rfl (g := (mkF m 116 (own_P p1 p2 p3 p4 q5 q6 (.val (.int (p1 &&& (3 : Int32)))) (.val (.ref sI)) (.val (.ref s0)) (.val (.ref s1)) (.val (.ref s2)) (.val (.ref s3)) (.val (.ref b12)) .unset .unset) [(.ref b12)])) rfl (hb hby at_116) (by decide) (by decide)
  obtain ⟨b17, g17⟩ : ∃ z, z = T16.heap.size := ⟨_, rfl⟩
  rw [← g17] at A17 D17 st17
  have F_source_b17 : Fld Z h17 b17 "com/example/arcrover/arcrover/Transition" "source" "Ljava/lang/String;" .null := D17 (Or.inr (own_w hw 305 rfl)) (ty := (.object "java/lang/String")) (by decide)
  have F_stimulus_b17 : Fld Z h17 b17 "com/example/arcrover/arcrover/Transition" "stimulus" "Ljava/lang/String;" .null := D17 (Or.inr (own_w hw 307 rfl)) (ty := (.object "java/lang/String")) (by decide)
  have F_reaction_b17 : Fld Z h17 b17 "com/example/arcrover/arcrover/Transition" "reaction" "Ljava/lang/String;" .null := D17 (Or.inr (own_w hw 309 rfl)) (ty := (.object "java/lang/String")) (by decide)
  have F_target_b17 : Fld Z h17 b17 "com/example/arcrover/arcrover/Transition" "target" "Ljava/lang/String;" .null := D17 (Or.inr (own_w hw 311 rfl)) (ty := (.object "java/lang/String")) (by decide)
  have E_b17 := A17
  have g_b17 : n0 ≤ b17 := Nat.le_trans (Nat.le_trans Z0 Kg16.1) (Nat.le_of_eq g17.symm)
  have sz_b17 : h0.size ≤ b17 := (Nat.le_trans Kc16.1 (Nat.le_of_eq g17.symm))
  have K17 : Keep h0 h17 [] := Kc16.ext E17
  have Z0 : n0 ≤ _ := (Nat.le_trans (Nat.le_trans Z0 Kg16.1) E17.1)
  obtain ⟨_, _, ⟨T18, L18, k18, n18⟩, -, X18, hSn18, hGr18, ⟨Lc18, hQ18, l18, y18, z18⟩, st18⟩ := X17.specialBackS hx (y := own_y19) rfl hown (mvT hZ (own_w hw 295 rfl)) (mvT hZ (own_w hw 296 rfl)) (mvT hZ (own_w hw 297 rfl)) (by decide) (backOfS (W := 2) (rm_tinit l Z a0 hw [] b17 s1 s2 s3 s0 _ _ _ _ h17 n0 Z0 E_b17 F_source_b17 g_b17 F_stimulus_b17 F_reaction_b17 F_target_b17) hZ (own_w hw 297 rfl) (own_w hw 294 rfl) (by decide) (by decide)) (g := (mkF m 128 (own_P p1 p2 p3 p4 q5 q6 (.val (.int (p1 &&& (3 : Int32)))) (.val (.ref sI)) (.val (.ref s0)) (.val (.ref s1)) (.val (.ref s2)) (.val (.ref s3)) (.val (.ref b12)) .unset .unset) [(.ref s0), (.ref s3), (.ref s2), (.ref s1), (.ref b17), (.ref b17), (.ref b12)])) rfl (by rw [hml]; rfl) (Steps.refl _) (a := b17) (argsL := [(.ref s1), (.ref s2), (.ref s3), (.ref s0)]) (rest := [(.ref b17), (.ref b12)]) (lenOf pd_0_29 rfl) rfl (Nat.le_of_eq rfl) (hb hby at_128) (fun _ _ => ⟨rfl, e17, (by decide : 22 + 8 ≤ _), (by decide : 174 + 128 ≤ _)⟩)
  dsimp only [Pt.U, Pt.locs, Pt.cells, Pt.slots] at X18 l18 y18 z18 st18 hQ18 hSn18 hGr18
  subst l18 y18 z18
  obtain ⟨rfl, N18q, K18, Ea18⟩ := hQ18
  have N18 := Fr.app N16 N18q
  replace X18 : Stand p l e _ (s.setVm T18.vm) m _ below meth c T18 _ _ _ := X18
  have hS := hS.trans hSn18 (Nat.le_trans (by rw [e17]; exact (Nat.le_trans (Nat.le_trans hk Kg16.1) E17.1)) hGr18)
  have hk : T18.heap.size ≤ T18.heap.size := Nat.le_refl _
  have hZ := State.Warmed39.trans (t := s.setVm _) hZ hSn18.1
  have hown : (s.setVm T18.vm).vm.findClass "com/example/arcrover/arcrover/ExplorationTransitionsPinLaw" = some m.cls := by rw [show (s.setVm T18.vm).vm = T18.vm from rfl, hSn18.1.alike.findClass]; exact hown
  have Kc18 : Keep h0 T18.heap [] := K17.trans K18 (allS (Or.inr sz_b17) all0)
  have f7 := ((Eg_b12.ext E17).keep K18)
  have f8 := ((Feg_b12.ext E17).keep K18 (ninS (Nat.ne_of_lt (Nat.lt_of_lt_of_le (((El_b12.ext E14).keep K15).keep Kg16).lt (Nat.le_of_eq g17.symm))) (nin0)))
  have f9 := ((Fsg_b12.ext E17).keep K18 (ninS (Nat.ne_of_lt (Nat.lt_of_lt_of_le (((El_b12.ext E14).keep K15).keep Kg16).lt (Nat.le_of_eq g17.symm))) (nin0)))
  have f10 := ((Fmg_b12.ext E17).keep K18 (ninS (Nat.ne_of_lt (Nat.lt_of_lt_of_le (((El_b12.ext E14).keep K15).keep Kg16).lt (Nat.le_of_eq g17.symm))) (nin0)))
  have f11 := ((VQ.ext E17).keep K18 (ninS (Nat.ne_of_lt (Nat.lt_of_lt_of_le VQ.lt (Nat.le_of_eq g17.symm))) (nin0)))
  have Z0 : n0 ≤ _ := (Nat.le_trans Z0 K18.1)
  have f6 := ((Eg_b12.ext E17).keep K18)
  obtain ⟨cq19, kq19, q19a, q19b, q19c⟩ := isOf hZ rfl f6
  obtain ⟨_, _, ⟨T19, L19, k19, n19⟩, -, X19, ⟨Lc19, hQ19, l19, y19, z19⟩, st19⟩ := X18.interfaceBack hx (xi := own_y11) (y := own_y4) hown (mvT hZ (own_w hw 70 rfl)) (mvT hZ (own_w hw 71 rfl)) (mvT hZ (own_w hw 72 rfl)) (mvT hZ (own_w hw 73 rfl)) (mvT hZ (own_w hw 74 rfl)) (mvT hZ (own_w hw 75 rfl)) (mvT hZ (own_w hw 76 rfl)) (mvT hZ (own_w hw 77 rfl)) (by decide) (backOf (W := 0) (rm_addb l Z a0 hw [] b12 b17 bQ ((0 : Int32) + (1 : Int32)) ((0 : Int32) + (1 : Int32)) kQ _ T18.heap n0 Z0 f7 f8 f9 f10 f11 (by simp) OQ ggQ hneQ g_b12 (Ins.of_exa Ea18 (own_w hw 312 rfl)) (by decide) (by decide) (by decide)) hZ (own_w hw 78 rfl) (own_w hw 28 rfl) (by decide) (by decide)) q19a q19b q19c (g := (mkF m 131 (own_P p1 p2 p3 p4 q5 q6 (.val (.int (p1 &&& (3 : Int32)))) (.val (.ref sI)) (.val (.ref s0)) (.val (.ref s1)) (.val (.ref s2)) (.val (.ref s3)) (.val (.ref b12)) .unset .unset) [(.ref b17), (.ref b12)])) rfl (by rw [hml]; rfl) (Steps.refl _) (argsL := [(.ref b17)]) (rest := []) (lenOf pd_0_7 rfl) rfl (Nat.le_of_eq rfl) (hb hby at_131) (fun _ _ => ⟨rfl, rfl, (by decide : 30 + 0 ≤ _), (by decide : 302 + 0 ≤ _)⟩)
  dsimp only [Pt.U, Pt.locs, Pt.cells, Pt.slots] at X19 l19 y19 z19 st19 hQ19
  subst l19 y19 z19
  obtain ⟨rfl, N19q, Kg19, Eh_b12, Feh_b12, Fsh_b12, Fmh_b12, VQ1⟩ := hQ19
  have N19 := Fr.app N18 N19q
  have Kc19 : Keep h0 T19.heap [] := Kc18.trans Kg19 (allS (Or.inr sz_b12) (allS (Or.inr szQ) all0))
  obtain ⟨T20, h20, X20, e20, E20, A20, D20, -, st20⟩ := newO X19 hx hZ hown (own_w hw 26 rfl) (own_w hw 27 rfl) (own_w hw 28 rfl) rfl (g := (mkF m 166 (own_P p1 p2 p3 p4 q5 q6 (.val (.int (p1 &&& (3 : Int32)))) (.val (.ref sI)) (.val (.ref s0)) (.val (.ref s1)) (.val (.ref s2)) (.val (.ref s3)) (.val (.ref b12)) .unset .unset) [])) rfl (hb hby at_166) (by decide) (by decide)
  obtain ⟨b20, g20⟩ : ∃ z, z = T19.heap.size := ⟨_, rfl⟩
  rw [← g20] at A20 D20 st20
  have F_modCount_b20 : Fld Z h20 b20 "java/util/AbstractList" "modCount" "I" (.int (0 : Int32)) := D20 (Or.inl (own_w hw 46 rfl)) (ty := .int) (by decide)
  have F_elementData_b20 : Fld Z h20 b20 "java/util/ArrayList" "elementData" "[Ljava/lang/Object;" .null := D20 (Or.inl (own_w hw 49 rfl)) (ty := (.array (.object "java/lang/Object"))) (by decide)
  have F_size_b20 : Fld Z h20 b20 "java/util/ArrayList" "size" "I" (.int (0 : Int32)) := D20 (Or.inl (own_w hw 82 rfl)) (ty := .int) (by decide)
  have E_b20 := A20
  have g_b20 : n0 ≤ b20 := Nat.le_trans (Nat.le_trans Z0 Kg19.1) (Nat.le_of_eq g20.symm)
  have sz_b20 : h0.size ≤ b20 := (Nat.le_trans Kc19.1 (Nat.le_of_eq g20.symm))
  have K20 : Keep h0 h20 [] := Kc19.ext E20
  have Ol := (((((Ol.keep Kg16 (allS g_b12 all0)).ext E17).keep K18 (allS g_b17 all0)).keep Kg19 (allS g_b12 (allS ggQ all0))).ext E20)
  have Z0 : n0 ≤ _ := (Nat.le_trans (Nat.le_trans Z0 Kg19.1) E20.1)
  obtain ⟨_, _, ⟨T21, L21, k21, n21⟩, -, X21, ⟨Lc21, hQ21, l21, y21, z21⟩, st21⟩ := X20.specialBack hx (y := own_y3) rfl hown (mvT hZ (own_w hw 29 rfl)) (mvT hZ (own_w hw 30 rfl)) (mvT hZ (own_w hw 31 rfl)) (by decide) (backOf (W := 1) (rm_al l Z a0 hw [] b20 wD _ _ _ h20 n0 Z0 Ol S_DC E_b20 F_elementData_b20 F_size_b20 F_modCount_b20 g_b20) hZ (own_w hw 31 rfl) (own_w hw 28 rfl) (by decide) (by decide)) (g := (mkF m 170 (own_P p1 p2 p3 p4 q5 q6 (.val (.int (p1 &&& (3 : Int32)))) (.val (.ref sI)) (.val (.ref s0)) (.val (.ref s1)) (.val (.ref s2)) (.val (.ref s3)) (.val (.ref b12)) .unset .unset) [(.ref b20), (.ref b20)])) rfl (by rw [hml]; rfl) (Steps.refl _) (a := b20) (argsL := []) (rest := [(.ref b20)]) (lenOf pd_0_4 rfl) rfl (Nat.le_of_eq rfl) (hb hby at_170) (fun _ _ => ⟨rfl, e20, (by decide : 31 + 0 ≤ _), (by decide : 305 + 0 ≤ _)⟩)
  dsimp only [Pt.U, Pt.locs, Pt.cells, Pt.slots] at X21 l21 y21 z21 st21 hQ21
  subst l21 y21 z21
  obtain ⟨rfl, N21q, K21, Ew_b20, Few_b20, Fsw_b20, Fmw_b20⟩ := hQ21
  have N21 := Fr.app N19 N21q
  have Kc21 : Keep h0 T21.heap [] := K20.trans K21 (allS (Or.inr sz_b20) all0)
  have Ol := (Ol.keep K21 (allS g_b20 all0))
  have Z0 : n0 ≤ _ := (Nat.le_trans Z0 K21.1)
  obtain ⟨_, _, ⟨T22, L22, k22, n22⟩, -, X22, ⟨Lc22, hQ22, l22, y22, z22⟩, st22⟩ := Jvm.LawKit.callS X21 hx (y := own_y1) hown (mvT hZ (own_w hw 50 rfl)) (mvT hZ (own_w hw 51 rfl)) (mvT hZ (own_w hw 52 rfl)) (mvT hZ (own_w hw 53 rfl)) (by decide) (backOf (W := 1) (HL T21.heap Z0 Ol) hZ (own_w hw 53 rfl) (own_w hw 52 rfl) (by decide) (by decide)) (g := (mkF m 179 (own_P p1 p2 p3 p4 q5 q6 (.val (.int (p1 &&& (3 : Int32)))) (.val (.ref sI)) (.val (.ref s0)) (.val (.ref s1)) (.val (.ref s2)) (.val (.ref s3)) (.val (.ref b12)) (.val (.ref b20)) .unset) [(.long q5), (.ref b20)])) rfl (by rw [hml]; rfl) (argsL := [(.long q5)]) (rest := [(.ref b20)]) (lenOf pd_0_5 rfl) rfl (Nat.le_of_eq rfl) (hb hby at_179) (fun _ _ => ⟨rfl, rfl, (by decide : 31 + 1 ≤ _), (by decide : 305 + 1 ≤ _)⟩)
  dsimp only [Pt.U, Pt.locs, Pt.cells, Pt.slots] at X22 l22 y22 z22 st22 hQ22
  subst l22 y22 z22
  obtain ⟨bV, rfl, N22q, ExV, EaV⟩ := hQ22
  have N22 := Fr.app N21 N22q
  have Kc22 : Keep h0 T22.heap [] := Kc21.ext ExV
  have f13 := (Ew_b20.ext ExV)
  have f14 := (Few_b20.ext ExV)
  have f15 := (Fsw_b20.ext ExV)
  have f16 := (Fmw_b20.ext ExV)
  have Ol := (Ol.ext ExV)
  have Z0 : n0 ≤ _ := (Nat.le_trans Z0 ExV.1)
  have f12 := (Ew_b20.ext ExV)
  obtain ⟨cq23, kq23, q23a, q23b, q23c⟩ := isOf hZ rfl f12
  obtain ⟨_, _, ⟨T23, L23, k23, n23⟩, -, X23, ⟨Lc23, hQ23, l23, y23, z23⟩, st23⟩ := X22.interfaceBack hx (xi := own_y11) (y := own_y4) hown (mvT hZ (own_w hw 70 rfl)) (mvT hZ (own_w hw 71 rfl)) (mvT hZ (own_w hw 72 rfl)) (mvT hZ (own_w hw 73 rfl)) (mvT hZ (own_w hw 74 rfl)) (mvT hZ (own_w hw 75 rfl)) (mvT hZ (own_w hw 76 rfl)) (mvT hZ (own_w hw 77 rfl)) (by decide) (backOf (W := 0) (rm_adda l Z a0 hw [] b20 bV wD (0 : Int32) (0 : Int32) cD T22.heap n0 Z0 Ol S_DC f13 f14 f15 f16 (A_D.ext (Ol).2) hszD g_b20 (by decide) (Ins.of_exa EaV (own_w hw 104 rfl)) ((Ol).ne A_D.lt g_b20) rfl (by decide) (by decide)) hZ (own_w hw 78 rfl) (own_w hw 28 rfl) (by decide) (by decide)) q23a q23b q23c (g := (mkF m 182 (own_P p1 p2 p3 p4 q5 q6 (.val (.int (p1 &&& (3 : Int32)))) (.val (.ref sI)) (.val (.ref s0)) (.val (.ref s1)) (.val (.ref s2)) (.val (.ref s3)) (.val (.ref b12)) (.val (.ref b20)) .unset) [(.ref bV), (.ref b20)])) rfl (by rw [hml]; rfl) (Steps.refl _) (argsL := [(.ref bV)]) (rest := []) (lenOf pd_0_7 rfl) rfl (Nat.le_of_eq rfl) (hb hby at_182) (fun _ _ => ⟨rfl, rfl, (by decide : 32 + 1 ≤ _), (by decide : 306 + 10 ≤ _)⟩)
  dsimp only [Pt.U, Pt.locs, Pt.cells, Pt.slots] at X23 l23 y23 z23 st23 hQ23
  subst l23 y23 z23
  obtain ⟨bP, kP, rfl, N23q, Kg23, Ey_b20, Fey_b20, Fsy_b20, Fmy_b20, VP, OP, ggP, szgP, EaP⟩ := hQ23
  have N23 := Fr.app N22 N23q
  have Kc23 : Keep h0 T23.heap [] := Kc22.trans Kg23 (allS (Or.inr sz_b20) all0)
  have hneP : b20 ≠ bP := by obtain ⟨c9, Ac, -⟩ := own_arr VP; exact ne_arr Ey_b20 (own_w hw 27 rfl) Ac
  have szP : h0.size ≤ bP := Nat.le_trans (Kc22).1 szgP
  obtain ⟨T24, h24, X24, e24, E24, A24, D24, -, st24⟩ := newO X23 hx hZ hown (own_w hw 105 rfl) (own_w hw 106 rfl) (own_w hw 107 rfl) rfl (g := (mkF m 188 (own_P p1 p2 p3 p4 q5 q6 (.val (.int (p1 &&& (3 : Int32)))) (.val (.ref sI)) (.val (.ref s0)) (.val (.ref s1)) (.val (.ref s2)) (.val (.ref s3)) (.val (.ref b12)) (.val (.ref b20)) .unset) [])) rfl (hb hby at_188) (by decide) (by decide)
  obtain ⟨b24, g24⟩ : ∃ z, z = T23.heap.size := ⟨_, rfl⟩
  rw [← g24] at A24 D24 st24
  have F_graph_b24 : Fld Z h24 b24 "com/example/arcrover/arcrover/Exploration" "graph" "Lcom/example/arcrover/arcrover/StateMachine;" .null := D24 (Or.inr (own_w hw 253 rfl)) (ty := (.object "com/example/arcrover/arcrover/StateMachine")) (by decide)
  have F_states_b24 : Fld Z h24 b24 "com/example/arcrover/arcrover/Exploration" "states" "I" (.int (0 : Int32)) := D24 (Or.inr (own_w hw 255 rfl)) (ty := .int) (by decide)
  have F_untried_b24 : Fld Z h24 b24 "com/example/arcrover/arcrover/Exploration" "untried" "I" (.int (0 : Int32)) := D24 (Or.inr (own_w hw 257 rfl)) (ty := .int) (by decide)
  have F_stimuli_b24 : Fld Z h24 b24 "com/example/arcrover/arcrover/Exploration" "stimuli" "J" (.long (0 : Int64)) := D24 (Or.inr (own_w hw 259 rfl)) (ty := .long) (by decide)
  have F_restarts_b24 : Fld Z h24 b24 "com/example/arcrover/arcrover/Exploration" "restarts" "J" (.long (0 : Int64)) := D24 (Or.inr (own_w hw 261 rfl)) (ty := .long) (by decide)
  have F_walkerStimuli_b24 : Fld Z h24 b24 "com/example/arcrover/arcrover/Exploration" "walkerStimuli" "Ljava/util/List;" .null := D24 (Or.inr (own_w hw 263 rfl)) (ty := (.object "java/util/List")) (by decide)
  have F_verdict_b24 : Fld Z h24 b24 "com/example/arcrover/arcrover/Exploration" "verdict" "Lcom/example/arcrover/arcrover/Verdict;" .null := D24 (Or.inr (own_w hw 265 rfl)) (ty := (.object "com/example/arcrover/arcrover/Verdict")) (by decide)
  have F_witness_b24 : Fld Z h24 b24 "com/example/arcrover/arcrover/Exploration" "witness" "Lcom/example/arcrover/arcrover/Witness;" .null := D24 (Or.inr (own_w hw 267 rfl)) (ty := (.object "com/example/arcrover/arcrover/Witness")) (by decide)
  have F_rejections_b24 : Fld Z h24 b24 "com/example/arcrover/arcrover/Exploration" "rejections" "Ljava/util/List;" .null := D24 (Or.inr (own_w hw 269 rfl)) (ty := (.object "java/util/List")) (by decide)
  have E_b24 := A24
  have g_b24 : n0 ≤ b24 := Nat.le_trans (Nat.le_trans Z0 Kg23.1) (Nat.le_of_eq g24.symm)
  have sz_b24 : h0.size ≤ b24 := (Nat.le_trans Kc23.1 (Nat.le_of_eq g24.symm))
  have K24 : Keep h0 h24 [] := Kc23.ext E24
  obtain ⟨T25, h25, X25, e25, E25, A25, D25, -, st25⟩ := newO X24 hx hZ hown (own_w hw 108 rfl) (own_w hw 109 rfl) (own_w hw 110 rfl) e24 (g := (mkF m 192 (own_P p1 p2 p3 p4 q5 q6 (.val (.int (p1 &&& (3 : Int32)))) (.val (.ref sI)) (.val (.ref s0)) (.val (.ref s1)) (.val (.ref s2)) (.val (.ref s3)) (.val (.ref b12)) (.val (.ref b20)) .unset) [(.ref b24), (.ref b24)])) rfl (hb hby at_192) (by decide) (by decide)
  obtain ⟨b25, g25⟩ : ∃ z, z = h24.size := ⟨_, rfl⟩
  rw [← g25] at A25 D25 st25
  have F_initial_b25 : Fld Z h25 b25 "com/example/arcrover/arcrover/StateMachine" "initial" "Ljava/lang/String;" .null := D25 (Or.inr (own_w hw 180 rfl)) (ty := (.object "java/lang/String")) (by decide)
  have F_transitions_b25 : Fld Z h25 b25 "com/example/arcrover/arcrover/StateMachine" "transitions" "Ljava/util/List;" .null := D25 (Or.inr (own_w hw 182 rfl)) (ty := (.object "java/util/List")) (by decide)
  have F_probabilities_b25 : Fld Z h25 b25 "com/example/arcrover/arcrover/StateMachine" "probabilities" "Ljava/util/Map;" .null := D25 (Or.inr (own_w hw 184 rfl)) (ty := (.object "java/util/Map")) (by decide)
  have E_b25 := A25
  have g_b25 : n0 ≤ b25 := Nat.le_trans (Nat.le_trans (Nat.le_trans Z0 Kg23.1) E24.1) (Nat.le_of_eq g25.symm)
  have sz_b25 : h0.size ≤ b25 := (Nat.le_trans K24.1 (Nat.le_of_eq g25.symm))
  have K25 : Keep h0 h25 [] := K24.ext E25
  have f17 := ((((((Eh_b12.ext E20).keep K21).ext ExV).keep Kg23).ext E24).ext E25)
  have f18 := ((((((Feh_b12.ext E20).keep K21 (ninS (Nat.ne_of_lt (Nat.lt_of_lt_of_le ((((((El_b12.ext E14).keep K15).keep Kg16).ext E17).keep K18).keep Kg19).lt (Nat.le_of_eq g20.symm))) (nin0))).ext ExV).keep Kg23 (ninS (Nat.ne_of_lt (Nat.lt_of_lt_of_le ((((((El_b12.ext E14).keep K15).keep Kg16).ext E17).keep K18).keep Kg19).lt (Nat.le_of_eq g20.symm))) (nin0))).ext E24).ext E25)
  have f19 := ((((((Fsh_b12.ext E20).keep K21 (ninS (Nat.ne_of_lt (Nat.lt_of_lt_of_le ((((((El_b12.ext E14).keep K15).keep Kg16).ext E17).keep K18).keep Kg19).lt (Nat.le_of_eq g20.symm))) (nin0))).ext ExV).keep Kg23 (ninS (Nat.ne_of_lt (Nat.lt_of_lt_of_le ((((((El_b12.ext E14).keep K15).keep Kg16).ext E17).keep K18).keep Kg19).lt (Nat.le_of_eq g20.symm))) (nin0))).ext E24).ext E25)
  have f20 := ((((((VQ1.ext E20).keep K21 (ninS (Nat.ne_of_lt (Nat.lt_of_lt_of_le VQ1.lt (Nat.le_of_eq g20.symm))) (nin0))).ext ExV).keep Kg23 (ninS (Nat.ne_of_lt (Nat.lt_of_lt_of_le VQ1.lt (Nat.le_of_eq g20.symm))) (nin0))).ext E24).ext E25)
  have f21 := (((((((((EaQ.ext E17).keep K18).keep Kg19).ext E20).keep K21).ext ExV).keep Kg23).ext E24).ext E25)
  have f22 := ((((((((((Ea15.keep Kg16).ext E17).keep K18).keep Kg19).ext E20).keep K21).ext ExV).keep Kg23).ext E24).ext E25)
  have f23 := (((((((Ea18.keep Kg19).ext E20).keep K21).ext ExV).keep Kg23).ext E24).ext E25)
  have Ol := (((Ol.keep Kg23 (allS g_b20 all0)).ext E24).ext E25)
  have Z0 : n0 ≤ _ := (Nat.le_trans (Nat.le_trans (Nat.le_trans Z0 Kg23.1) E24.1) E25.1)
  obtain ⟨_, _, ⟨T26, L26, k26, n26⟩, -, X26, hSn26, hGr26, ⟨Lc26, hQ26, l26, y26, z26⟩, st26⟩ := X25.specialBackS hx (y := own_y8) rfl hown (mvT hZ (own_w hw 111 rfl)) (mvT hZ (own_w hw 112 rfl)) (mvT hZ (own_w hw 113 rfl)) (by decide) (backOfS (W := 3) (rm_sm2_2 l Z a0 hw [] b25 sI b12 wM kQ _ b14 b17 bQ aM _ _ _ h25 n0 Z0 Ol S_EMPTY_MAP f17 f18 (by have q := f19; rw [show (((0 : Int32) + (1 : Int32)) + (1 : Int32)) = (2 : Int32) from by decide] at q; exact q) f20 f21 Mr (by rfl) (by rfl) (Ins.of_exa f22 (own_w hw 312 rfl)) (Ins.of_exa f23 (own_w hw 312 rfl)) (E_M.ext (Ol).2) (F_M.ext (Ol).2) E_b25 F_initial_b25 F_transitions_b25 F_probabilities_b25 g_b25) hZ (own_w hw 113 rfl) (own_w hw 110 rfl) (by decide) (by decide)) (g := (mkF m 200 (own_P p1 p2 p3 p4 q5 q6 (.val (.int (p1 &&& (3 : Int32)))) (.val (.ref sI)) (.val (.ref s0)) (.val (.ref s1)) (.val (.ref s2)) (.val (.ref s3)) (.val (.ref b12)) (.val (.ref b20)) .unset) [(.ref b12), (.ref sI), (.ref b25), (.ref b25), (.ref b24), (.ref b24)])) rfl (by rw [hml]; rfl) (Steps.refl _) (a := b25) (argsL := [(.ref sI), (.ref b12)]) (rest := [(.ref b25), (.ref b24), (.ref b24)]) (lenOf pd_0_12 rfl) rfl (Nat.le_of_eq rfl) (hb hby at_200) (fun _ _ => ⟨rfl, e25, (by decide : 35 + 4 ≤ _), (by decide : 328 + 36 ≤ _)⟩)
  dsimp only [Pt.U, Pt.locs, Pt.cells, Pt.slots] at X26 l26 y26 z26 st26 hQ26 hSn26 hGr26
  subst l26 y26 z26
  obtain ⟨bL, rfl, N26q, Ks, Es, Ft, Ls⟩ := hQ26
  have N26 := Fr.app N23 N26q
  replace X26 : Stand p l e _ (s.setVm T26.vm) m _ below meth c T26 _ _ _ := X26
  have hS := hS.trans hSn26 (Nat.le_trans (by rw [e25]; exact (Nat.le_trans (Nat.le_trans (Nat.le_trans (Nat.le_trans (Nat.le_trans (Nat.le_trans (Nat.le_trans hk Kg19.1) E20.1) K21.1) ExV.1) Kg23.1) E24.1) E25.1)) hGr26)
  have hk : T26.heap.size ≤ T26.heap.size := Nat.le_refl _
  have hZ := State.Warmed39.trans (t := s.setVm _) hZ hSn26.1
  have hown : (s.setVm T26.vm).vm.findClass "com/example/arcrover/arcrover/ExplorationTransitionsPinLaw" = some m.cls := by rw [show (s.setVm T26.vm).vm = T26.vm from rfl, hSn26.1.alike.findClass]; exact hown
  have Kc26 : Keep h0 T26.heap [] := K25.trans Ks (allS (Or.inr sz_b25) all0)
  obtain ⟨EbL, F1L⟩ := Ls
  have f24 := ((E_b24.ext E25).keep Ks)
  have neXL : b24 ≠ bL := ne_exa f24 EbL (by decide)
  obtain ⟨T27, h27, X27, e27, E27, A27, D27, -, st27⟩ := newO X26 hx hZ hown (own_w hw 26 rfl) (own_w hw 27 rfl) (own_w hw 28 rfl) rfl (g := (mkF m 213 (own_P p1 p2 p3 p4 q5 q6 (.val (.int (p1 &&& (3 : Int32)))) (.val (.ref sI)) (.val (.ref s0)) (.val (.ref s1)) (.val (.ref s2)) (.val (.ref s3)) (.val (.ref b12)) (.val (.ref b20)) .unset) [.null, .null, (.ref b20), (.long q6), (.long q5), (.int p4), (.int p3), (.ref b25), (.ref b24), (.ref b24)])) rfl (hb hby at_213) (by decide) (by decide)
  obtain ⟨b27, g27⟩ : ∃ z, z = T26.heap.size := ⟨_, rfl⟩
  rw [← g27] at A27 D27 st27
  have F_modCount_b27 : Fld Z h27 b27 "java/util/AbstractList" "modCount" "I" (.int (0 : Int32)) := D27 (Or.inl (own_w hw 46 rfl)) (ty := .int) (by decide)
  have F_elementData_b27 : Fld Z h27 b27 "java/util/ArrayList" "elementData" "[Ljava/lang/Object;" .null := D27 (Or.inl (own_w hw 49 rfl)) (ty := (.array (.object "java/lang/Object"))) (by decide)
  have F_size_b27 : Fld Z h27 b27 "java/util/ArrayList" "size" "I" (.int (0 : Int32)) := D27 (Or.inl (own_w hw 82 rfl)) (ty := .int) (by decide)
  have E_b27 := A27
  have g_b27 : n0 ≤ b27 := Nat.le_trans (Nat.le_trans Z0 Ks.1) (Nat.le_of_eq g27.symm)
  have sz_b27 : h0.size ≤ b27 := (Nat.le_trans Kc26.1 (Nat.le_of_eq g27.symm))
  have K27 : Keep h0 h27 [] := Kc26.ext E27
  have Ol := ((Ol.keep Ks (allS g_b25 all0)).ext E27)
  have Z0 : n0 ≤ _ := (Nat.le_trans (Nat.le_trans Z0 Ks.1) E27.1)
  obtain ⟨_, _, ⟨T28, L28, k28, n28⟩, -, X28, ⟨Lc28, hQ28, l28, y28, z28⟩, st28⟩ := X27.specialBack hx (y := own_y3) rfl hown (mvT hZ (own_w hw 29 rfl)) (mvT hZ (own_w hw 30 rfl)) (mvT hZ (own_w hw 31 rfl)) (by decide) (backOf (W := 13) (rm_al l Z a0 hw [] b27 wD _ _ _ h27 n0 Z0 Ol S_DC E_b27 F_elementData_b27 F_size_b27 F_modCount_b27 g_b27) hZ (own_w hw 31 rfl) (own_w hw 28 rfl) (by decide) (by decide)) (g := (mkF m 217 (own_P p1 p2 p3 p4 q5 q6 (.val (.int (p1 &&& (3 : Int32)))) (.val (.ref sI)) (.val (.ref s0)) (.val (.ref s1)) (.val (.ref s2)) (.val (.ref s3)) (.val (.ref b12)) (.val (.ref b20)) .unset) [(.ref b27), (.ref b27), .null, .null, (.ref b20), (.long q6), (.long q5), (.int p4), (.int p3), (.ref b25), (.ref b24), (.ref b24)])) rfl (by rw [hml]; rfl) (Steps.refl _) (a := b27) (argsL := []) (rest := [(.ref b27), .null, .null, (.ref b20), (.long q6), (.long q5), (.int p4), (.int p3), (.ref b25), (.ref b24), (.ref b24)]) (lenOf pd_0_4 rfl) rfl (Nat.le_of_eq rfl) (hb hby at_217) (fun _ _ => ⟨rfl, e27, (by decide : 40 + 0 ≤ _), (by decide : 367 + 0 ≤ _)⟩)
  dsimp only [Pt.U, Pt.locs, Pt.cells, Pt.slots] at X28 l28 y28 z28 st28 hQ28
  subst l28 y28 z28
  obtain ⟨rfl, N28q, K28, Er_b27, Fer_b27, Fsr_b27, Fmr_b27⟩ := hQ28
  have N28 := Fr.app N26 N28q
  have Kc28 : Keep h0 T28.heap [] := K27.trans K28 (allS (Or.inr sz_b27) all0)
  have f25 := (((((Ey_b20.ext E24).ext E25).keep Ks).ext E27).keep K28)
  have f26 := (((((Fey_b20.ext E24).ext E25).keep Ks (ninS (Nat.ne_of_lt (Nat.lt_of_lt_of_le (((Ew_b20.ext ExV).keep Kg23).ext E24).lt (Nat.le_of_eq g25.symm))) (nin0))).ext E27).keep K28 (ninS (Nat.ne_of_lt (Nat.lt_of_lt_of_le (((((Ew_b20.ext ExV).keep Kg23).ext E24).ext E25).keep Ks).lt (Nat.le_of_eq g27.symm))) (nin0)))
  have f27 := (((((Fsy_b20.ext E24).ext E25).keep Ks (ninS (Nat.ne_of_lt (Nat.lt_of_lt_of_le (((Ew_b20.ext ExV).keep Kg23).ext E24).lt (Nat.le_of_eq g25.symm))) (nin0))).ext E27).keep K28 (ninS (Nat.ne_of_lt (Nat.lt_of_lt_of_le (((((Ew_b20.ext ExV).keep Kg23).ext E24).ext E25).keep Ks).lt (Nat.le_of_eq g27.symm))) (nin0)))
  have f28 := (((((VP.ext E24).ext E25).keep Ks (ninS (Nat.ne_of_lt (Nat.lt_of_lt_of_le (VP.ext E24).lt (Nat.le_of_eq g25.symm))) (nin0))).ext E27).keep K28 (ninS (Nat.ne_of_lt (Nat.lt_of_lt_of_le (((VP.ext E24).ext E25).keep Ks (ninS (Nat.ne_of_lt (Nat.lt_of_lt_of_le (VP.ext E24).lt (Nat.le_of_eq g25.symm))) (nin0))).lt (Nat.le_of_eq g27.symm))) (nin0)))
  have f29 := (((((EaP.ext E24).ext E25).keep Ks).ext E27).keep K28)
  have f30 := ((((((EaV.keep Kg23).ext E24).ext E25).keep Ks).ext E27).keep K28)
  have f31 := ((f24.ext E27).keep K28)
  have f32 := ((((F_graph_b24.ext E25).keep Ks (ninS (Nat.ne_of_lt (Nat.lt_of_lt_of_le E_b24.lt (Nat.le_of_eq g25.symm))) (nin0))).ext E27).keep K28 (ninS (Nat.ne_of_lt (Nat.lt_of_lt_of_le ((E_b24.ext E25).keep Ks).lt (Nat.le_of_eq g27.symm))) (nin0)))
  have f33 := ((((F_states_b24.ext E25).keep Ks (ninS (Nat.ne_of_lt (Nat.lt_of_lt_of_le E_b24.lt (Nat.le_of_eq g25.symm))) (nin0))).ext E27).keep K28 (ninS (Nat.ne_of_lt (Nat.lt_of_lt_of_le ((E_b24.ext E25).keep Ks).lt (Nat.le_of_eq g27.symm))) (nin0)))
  have f34 := ((((F_untried_b24.ext E25).keep Ks (ninS (Nat.ne_of_lt (Nat.lt_of_lt_of_le E_b24.lt (Nat.le_of_eq g25.symm))) (nin0))).ext E27).keep K28 (ninS (Nat.ne_of_lt (Nat.lt_of_lt_of_le ((E_b24.ext E25).keep Ks).lt (Nat.le_of_eq g27.symm))) (nin0)))
  have f35 := ((((F_stimuli_b24.ext E25).keep Ks (ninS (Nat.ne_of_lt (Nat.lt_of_lt_of_le E_b24.lt (Nat.le_of_eq g25.symm))) (nin0))).ext E27).keep K28 (ninS (Nat.ne_of_lt (Nat.lt_of_lt_of_le ((E_b24.ext E25).keep Ks).lt (Nat.le_of_eq g27.symm))) (nin0)))
  have f36 := ((((F_restarts_b24.ext E25).keep Ks (ninS (Nat.ne_of_lt (Nat.lt_of_lt_of_le E_b24.lt (Nat.le_of_eq g25.symm))) (nin0))).ext E27).keep K28 (ninS (Nat.ne_of_lt (Nat.lt_of_lt_of_le ((E_b24.ext E25).keep Ks).lt (Nat.le_of_eq g27.symm))) (nin0)))
  have f37 := ((((F_walkerStimuli_b24.ext E25).keep Ks (ninS (Nat.ne_of_lt (Nat.lt_of_lt_of_le E_b24.lt (Nat.le_of_eq g25.symm))) (nin0))).ext E27).keep K28 (ninS (Nat.ne_of_lt (Nat.lt_of_lt_of_le ((E_b24.ext E25).keep Ks).lt (Nat.le_of_eq g27.symm))) (nin0)))
  have f38 := ((((F_verdict_b24.ext E25).keep Ks (ninS (Nat.ne_of_lt (Nat.lt_of_lt_of_le E_b24.lt (Nat.le_of_eq g25.symm))) (nin0))).ext E27).keep K28 (ninS (Nat.ne_of_lt (Nat.lt_of_lt_of_le ((E_b24.ext E25).keep Ks).lt (Nat.le_of_eq g27.symm))) (nin0)))
  have f39 := ((((F_witness_b24.ext E25).keep Ks (ninS (Nat.ne_of_lt (Nat.lt_of_lt_of_le E_b24.lt (Nat.le_of_eq g25.symm))) (nin0))).ext E27).keep K28 (ninS (Nat.ne_of_lt (Nat.lt_of_lt_of_le ((E_b24.ext E25).keep Ks).lt (Nat.le_of_eq g27.symm))) (nin0)))
  have f40 := ((((F_rejections_b24.ext E25).keep Ks (ninS (Nat.ne_of_lt (Nat.lt_of_lt_of_le E_b24.lt (Nat.le_of_eq g25.symm))) (nin0))).ext E27).keep K28 (ninS (Nat.ne_of_lt (Nat.lt_of_lt_of_le ((E_b24.ext E25).keep Ks).lt (Nat.le_of_eq g27.symm))) (nin0)))
  have Ol := (Ol.keep K28 (allS g_b27 all0))
  have Z0 : n0 ≤ _ := (Nat.le_trans Z0 K28.1)
  obtain ⟨_, _, ⟨T29, L29, k29, n29⟩, -, X29, ⟨Lc29, hQ29, l29, y29, z29⟩, st29⟩ := X28.specialBack hx (y := own_y26) rfl hown (mvT hZ (own_w hw 185 rfl)) (mvT hZ (own_w hw 186 rfl)) (mvT hZ (own_w hw 187 rfl)) (by decide) (backOf (W := 1) (rm_xinit l Z a0 hw [] b24 b25 p3 p4 q5 q6 b20 b27 kP _ bV bP aM wO wL _ _ _ _ _ _ _ _ _ T28.heap n0 Z0 Ol S_EMPTY f25 f26 (by have q := f27; rw [show ((0 : Int32) + (1 : Int32)) = (1 : Int32) from by decide] at q; exact q) f28 f29 Mr (by rfl) (Ins.of_exa f30 (own_w hw 104 rfl)) S_EMPTY_LIST Er_b27 Fsr_b27 f31 f32 g_b24 f33 f34 f35 f36 f37 f38 f39 f40) hZ (own_w hw 187 rfl) (own_w hw 107 rfl) (by decide) (by decide)) (g := (mkF m 220 (own_P p1 p2 p3 p4 q5 q6 (.val (.int (p1 &&& (3 : Int32)))) (.val (.ref sI)) (.val (.ref s0)) (.val (.ref s1)) (.val (.ref s2)) (.val (.ref s3)) (.val (.ref b12)) (.val (.ref b20)) .unset) [(.ref b27), .null, .null, (.ref b20), (.long q6), (.long q5), (.int p4), (.int p3), (.ref b25), (.ref b24), (.ref b24)])) rfl (by rw [hml]; rfl) (Steps.refl _) (a := b24) (argsL := [(.ref b25), (.int p3), (.int p4), (.long q5), (.long q6), (.ref b20), .null, .null, (.ref b27)]) (rest := [(.ref b24)]) (lenOf pd_0_20 rfl) rfl (Nat.le_of_eq rfl) (hb hby at_220) (fun _ _ => ⟨rfl, rfl, (by decide : 40 + 2 ≤ _), (by decide : 367 + 3 ≤ _)⟩)
  dsimp only [Pt.U, Pt.locs, Pt.cells, Pt.slots] at X29 l29 y29 z29 st29 hQ29
  subst l29 y29 z29
  obtain ⟨rfl, N29q, Kx, Exx, Fgx⟩ := hQ29
  have N29 := Fr.app N28 N29q
  have Kc29 : Keep h0 T29.heap [] := Kc28.trans Kx (allS (Or.inr sz_b24) all0)
  have f41 := (((Es.ext E27).keep K28).keep Kx)
  have f42 := (((Ft.ext E27).keep K28 (ninS (Nat.ne_of_lt (Nat.lt_of_lt_of_le Es.lt (Nat.le_of_eq g27.symm))) (nin0))).keep Kx (ninS (Ne.symm (Nat.ne_of_lt (Nat.lt_of_lt_of_le E_b24.lt (Nat.le_of_eq g25.symm)))) (nin0)))
  have f43 := (((EbL.ext E27).keep K28).keep Kx)
  have f44 := (((F1L.ext E27).keep K28 (ninS (Nat.ne_of_lt (Nat.lt_of_lt_of_le EbL.lt (Nat.le_of_eq g27.symm))) (nin0))).keep Kx (ninS (Ne.symm (neXL)) (nin0)))
  have Ol := (Ol.keep Kx (allS g_b24 all0))
  have Z0 : n0 ≤ _ := (Nat.le_trans Z0 Kx.1)
  obtain ⟨cq30, kq30, q30a, q30b, q30c⟩ := isOf hZ rfl Exx
  obtain ⟨_, _, ⟨T30, L30, k30, n30⟩, -, X30, ⟨Lc30, hQ30, l30, y30, z30⟩, st30⟩ := X29.virtualBack hx (y := own_y2) (z := own_y2) hown (mvT hZ (own_w hw 270 rfl)) (mvT hZ (own_w hw 271 rfl)) (notFace_of_selects (args := #[]) (mvT hZ (own_w hw 273 rfl))) (mvT hZ (own_w hw 273 rfl)) (mvT hZ (own_w hw 272 rfl)) (by decide) (backOf (W := 0) (rm_trn2 l Z a0 hw [] b24 b25 bL wO b17 T29.heap n0 Z0 Fgx f41 f42 f43 Ol S_EMPTY f44 (fun q => (Ol).ne E_O.lt g_b17 q.symm)) hZ (own_w hw 274 rfl) (own_w hw 107 rfl) (by decide) (by decide)) q30a q30c (g := (mkF m 227 (own_P p1 p2 p3 p4 q5 q6 (.val (.int (p1 &&& (3 : Int32)))) (.val (.ref sI)) (.val (.ref s0)) (.val (.ref s1)) (.val (.ref s2)) (.val (.ref s3)) (.val (.ref b12)) (.val (.ref b20)) (.val (.ref b24))) [(.ref b24)])) rfl (by rw [hml]; rfl) (Steps.refl _) (argsL := []) (rest := []) (lenOf pd_0_28 rfl) rfl (Nat.le_of_eq rfl) (hb hby at_227) (fun _ _ => ⟨rfl, rfl, (by decide : 42 + 0 ≤ _), (by decide : 370 + 0 ≤ _)⟩)
  dsimp only [Pt.U, Pt.locs, Pt.cells, Pt.slots] at X30 l30 y30 z30 st30 hQ30
  subst l30 y30 z30
  obtain ⟨rfl, N30q, K30⟩ := hQ30
  have N30 := Fr.app N29 N30q
  have hkEnd := Nat.le_trans (Nat.le_trans (Nat.le_trans (Nat.le_trans hk E27.1) K28.1) Kx.1) (Nat.le_of_eq (congrArg Array.size K30).symm)
  obtain ⟨fs, hr, hrun, hended, hEW⟩ := X30.leaveW hS hkEnd (v := some (.int (1 : Int32))) (fun h => by rw [Bd.returns] at h; cases h)
  refine ⟨_, _, pre0 _ ?_, hrun, hended, _, _, rfl, ?_, hEW.1, hEW.2.1, hEW.2.2.1, hEW.2.2.2.mono (by decide) (by decide)⟩
  · show Steps _ _ _ (s₁.setTop (mkF m 0 (own_P p1 p2 p3 p4 q5 q6 .unset .unset .unset .unset .unset .unset .unset .unset .unset) [])) _
    refine XS.iloadN X0.here hx rfl (hb hby at_0) rfl ?_
    refine XS.iconst X0.here hx rfl (hb hby at_1) ?_
    refine XS.iand X0.here hx rfl (hb hby at_2) rfl ?_
    refine XS.istore X0.here hx rfl (hb hby at_3) rfl (l' := (own_P p1 p2 p3 p4 q5 q6 (.val (.int (p1 &&& (3 : Int32)))) .unset .unset .unset .unset .unset .unset .unset .unset)) rfl ?_
    show Steps _ _ _ (s₁.setTop (mkF m 5 (own_P p1 p2 p3 p4 q5 q6 (.val (.int (p1 &&& (3 : Int32)))) .unset .unset .unset .unset .unset .unset .unset .unset) [])) _
    refine XS.iloadN X0.here hx rfl (hb hby at_5) rfl ?_
    refine XS.iconst X0.here hx rfl (hb hby at_6) ?_
    refine XS.iushr X0.here hx rfl (hb hby at_7) rfl ?_
    refine XS.sipush X0.here hx rfl (hb hby at_8) ?_
    show Steps _ _ _ (s₁.setTop (mkF m 11 (own_P p1 p2 p3 p4 q5 q6 (.val (.int (p1 &&& (3 : Int32)))) .unset .unset .unset .unset .unset .unset .unset .unset) [(.int (255 : Int32)), (.int ((p1.toUInt32 >>> ((2 : Int32) &&& 31).toUInt32).toInt32))])) _
    refine XS.iand X0.here hx rfl (hb hby at_11) rfl ?_
    refine XS.i2c X0.here hx rfl (hb hby at_12) rfl ?_
    show Steps _ _ _ (s₁.setTop (mkF m 13 (own_P p1 p2 p3 p4 q5 q6 (.val (.int (p1 &&& (3 : Int32)))) .unset .unset .unset .unset .unset .unset .unset .unset) [(.int ((((p1.toUInt32 >>> ((2 : Int32) &&& 31).toUInt32).toInt32) &&& (255 : Int32)).toUInt32.toUInt16.toUInt32.toInt32))])) _
    refine st7 _ ?_
    show Steps _ _ _ (T7.setTop (mkF m 16 (own_P p1 p2 p3 p4 q5 q6 (.val (.int (p1 &&& (3 : Int32)))) .unset .unset .unset .unset .unset .unset .unset .unset) [(.ref sI)])) _
    refine XS.astore X7.here hx rfl (hb hby at_16) rfl rfl (l' := (own_P p1 p2 p3 p4 q5 q6 (.val (.int (p1 &&& (3 : Int32)))) (.val (.ref sI)) .unset .unset .unset .unset .unset .unset .unset)) rfl ?_
    refine XS.iloadN X7.here hx rfl (hb hby at_18) rfl ?_
    refine XS.sipush X7.here hx rfl (hb hby at_19) ?_
    refine XS.iand X7.here hx rfl (hb hby at_22) rfl ?_
    show Steps _ _ _ (T7.setTop (mkF m 23 (own_P p1 p2 p3 p4 q5 q6 (.val (.int (p1 &&& (3 : Int32)))) (.val (.ref sI)) .unset .unset .unset .unset .unset .unset .unset) [(.int (p2 &&& (255 : Int32)))])) _
    refine XS.i2c X7.here hx rfl (hb hby at_23) rfl ?_
    show Steps _ _ _ (T7.setTop (mkF m 24 (own_P p1 p2 p3 p4 q5 q6 (.val (.int (p1 &&& (3 : Int32)))) (.val (.ref sI)) .unset .unset .unset .unset .unset .unset .unset) [(.int ((p2 &&& (255 : Int32)).toUInt32.toUInt16.toUInt32.toInt32))])) _
    refine st8 _ ?_
    show Steps _ _ _ (T8.setTop (mkF m 27 (own_P p1 p2 p3 p4 q5 q6 (.val (.int (p1 &&& (3 : Int32)))) (.val (.ref sI)) .unset .unset .unset .unset .unset .unset .unset) [(.ref s0)])) _
    refine XS.astore X8.here hx rfl (hb hby at_27) rfl rfl (l' := (own_P p1 p2 p3 p4 q5 q6 (.val (.int (p1 &&& (3 : Int32)))) (.val (.ref sI)) (.val (.ref s0)) .unset .unset .unset .unset .unset .unset)) rfl ?_
    refine XS.iloadN X8.here hx rfl (hb hby at_29) rfl ?_
    refine XS.bipush X8.here hx rfl (hb hby at_30) ?_
    refine XS.iushr X8.here hx rfl (hb hby at_32) rfl ?_
    show Steps _ _ _ (T8.setTop (mkF m 33 (own_P p1 p2 p3 p4 q5 q6 (.val (.int (p1 &&& (3 : Int32)))) (.val (.ref sI)) (.val (.ref s0)) .unset .unset .unset .unset .unset .unset) [(.int ((p2.toUInt32 >>> ((8 : Int32) &&& 31).toUInt32).toInt32))])) _
    refine XS.sipush X8.here hx rfl (hb hby at_33) ?_
    refine XS.iand X8.here hx rfl (hb hby at_36) rfl ?_
    refine XS.i2c X8.here hx rfl (hb hby at_37) rfl ?_
    show Steps _ _ _ (T8.setTop (mkF m 38 (own_P p1 p2 p3 p4 q5 q6 (.val (.int (p1 &&& (3 : Int32)))) (.val (.ref sI)) (.val (.ref s0)) .unset .unset .unset .unset .unset .unset) [(.int ((((p2.toUInt32 >>> ((8 : Int32) &&& 31).toUInt32).toInt32) &&& (255 : Int32)).toUInt32.toUInt16.toUInt32.toInt32))])) _
    refine st9 _ ?_
    show Steps _ _ _ (T9.setTop (mkF m 41 (own_P p1 p2 p3 p4 q5 q6 (.val (.int (p1 &&& (3 : Int32)))) (.val (.ref sI)) (.val (.ref s0)) .unset .unset .unset .unset .unset .unset) [(.ref s1)])) _
    refine XS.astore X9.here hx rfl (hb hby at_41) rfl rfl (l' := (own_P p1 p2 p3 p4 q5 q6 (.val (.int (p1 &&& (3 : Int32)))) (.val (.ref sI)) (.val (.ref s0)) (.val (.ref s1)) .unset .unset .unset .unset .unset)) rfl ?_
    refine XS.iloadN X9.here hx rfl (hb hby at_43) rfl ?_
    refine XS.bipush X9.here hx rfl (hb hby at_44) ?_
    refine XS.iushr X9.here hx rfl (hb hby at_46) rfl ?_
    show Steps _ _ _ (T9.setTop (mkF m 47 (own_P p1 p2 p3 p4 q5 q6 (.val (.int (p1 &&& (3 : Int32)))) (.val (.ref sI)) (.val (.ref s0)) (.val (.ref s1)) .unset .unset .unset .unset .unset) [(.int ((p2.toUInt32 >>> ((16 : Int32) &&& 31).toUInt32).toInt32))])) _
    refine XS.sipush X9.here hx rfl (hb hby at_47) ?_
    refine XS.iand X9.here hx rfl (hb hby at_50) rfl ?_
    refine XS.i2c X9.here hx rfl (hb hby at_51) rfl ?_
    show Steps _ _ _ (T9.setTop (mkF m 52 (own_P p1 p2 p3 p4 q5 q6 (.val (.int (p1 &&& (3 : Int32)))) (.val (.ref sI)) (.val (.ref s0)) (.val (.ref s1)) .unset .unset .unset .unset .unset) [(.int ((((p2.toUInt32 >>> ((16 : Int32) &&& 31).toUInt32).toInt32) &&& (255 : Int32)).toUInt32.toUInt16.toUInt32.toInt32))])) _
    refine st10 _ ?_
    show Steps _ _ _ (T10.setTop (mkF m 55 (own_P p1 p2 p3 p4 q5 q6 (.val (.int (p1 &&& (3 : Int32)))) (.val (.ref sI)) (.val (.ref s0)) (.val (.ref s1)) .unset .unset .unset .unset .unset) [(.ref s2)])) _
    refine XS.astore X10.here hx rfl (hb hby at_55) rfl rfl (l' := (own_P p1 p2 p3 p4 q5 q6 (.val (.int (p1 &&& (3 : Int32)))) (.val (.ref sI)) (.val (.ref s0)) (.val (.ref s1)) (.val (.ref s2)) .unset .unset .unset .unset)) rfl ?_
    refine XS.iloadN X10.here hx rfl (hb hby at_57) rfl ?_
    refine XS.bipush X10.here hx rfl (hb hby at_58) ?_
    refine XS.iushr X10.here hx rfl (hb hby at_60) rfl ?_
    show Steps _ _ _ (T10.setTop (mkF m 61 (own_P p1 p2 p3 p4 q5 q6 (.val (.int (p1 &&& (3 : Int32)))) (.val (.ref sI)) (.val (.ref s0)) (.val (.ref s1)) (.val (.ref s2)) .unset .unset .unset .unset) [(.int ((p2.toUInt32 >>> ((24 : Int32) &&& 31).toUInt32).toInt32))])) _
    refine XS.sipush X10.here hx rfl (hb hby at_61) ?_
    refine XS.iand X10.here hx rfl (hb hby at_64) rfl ?_
    refine XS.i2c X10.here hx rfl (hb hby at_65) rfl ?_
    show Steps _ _ _ (T10.setTop (mkF m 66 (own_P p1 p2 p3 p4 q5 q6 (.val (.int (p1 &&& (3 : Int32)))) (.val (.ref sI)) (.val (.ref s0)) (.val (.ref s1)) (.val (.ref s2)) .unset .unset .unset .unset) [(.int ((((p2.toUInt32 >>> ((24 : Int32) &&& 31).toUInt32).toInt32) &&& (255 : Int32)).toUInt32.toUInt16.toUInt32.toInt32))])) _
    refine st11 _ ?_
    show Steps _ _ _ (T11.setTop (mkF m 69 (own_P p1 p2 p3 p4 q5 q6 (.val (.int (p1 &&& (3 : Int32)))) (.val (.ref sI)) (.val (.ref s0)) (.val (.ref s1)) (.val (.ref s2)) .unset .unset .unset .unset) [(.ref s3)])) _
    refine XS.astore X11.here hx rfl (hb hby at_69) rfl rfl (l' := (own_P p1 p2 p3 p4 q5 q6 (.val (.int (p1 &&& (3 : Int32)))) (.val (.ref sI)) (.val (.ref s0)) (.val (.ref s1)) (.val (.ref s2)) (.val (.ref s3)) .unset .unset .unset)) rfl ?_
    show Steps _ _ _ (T11.setTop (mkF m 71 (own_P p1 p2 p3 p4 q5 q6 (.val (.int (p1 &&& (3 : Int32)))) (.val (.ref sI)) (.val (.ref s0)) (.val (.ref s1)) (.val (.ref s2)) (.val (.ref s3)) .unset .unset .unset) [])) _
    refine st12 _ ?_
    show Steps _ _ _ (T12.setTop (mkF m 74 (own_P p1 p2 p3 p4 q5 q6 (.val (.int (p1 &&& (3 : Int32)))) (.val (.ref sI)) (.val (.ref s0)) (.val (.ref s1)) (.val (.ref s2)) (.val (.ref s3)) .unset .unset .unset) [(.ref b12)])) _
    refine XS.dup X12.here hx rfl (hb hby at_74) rfl rfl ?_
    show Steps _ _ _ (T12.setTop (mkF m 75 (own_P p1 p2 p3 p4 q5 q6 (.val (.int (p1 &&& (3 : Int32)))) (.val (.ref sI)) (.val (.ref s0)) (.val (.ref s1)) (.val (.ref s2)) (.val (.ref s3)) .unset .unset .unset) [(.ref b12), (.ref b12)])) _
    refine st13.trans ?_
    show Steps _ _ _ (T13.setTop (mkF m 78 (own_P p1 p2 p3 p4 q5 q6 (.val (.int (p1 &&& (3 : Int32)))) (.val (.ref sI)) (.val (.ref s0)) (.val (.ref s1)) (.val (.ref s2)) (.val (.ref s3)) .unset .unset .unset) [(.ref b12)])) _
    refine XS.astore X13.here hx rfl (hb hby at_78) rfl rfl (l' := (own_P p1 p2 p3 p4 q5 q6 (.val (.int (p1 &&& (3 : Int32)))) (.val (.ref sI)) (.val (.ref s0)) (.val (.ref s1)) (.val (.ref s2)) (.val (.ref s3)) (.val (.ref b12)) .unset .unset)) rfl ?_
    refine XS.iload X13.here hx rfl (hb hby at_80) rfl ?_
    refine XS.ifNo X13.here hx rfl (hb hby at_82) rfl ((if0 _ _).trans (tlt hc82).2.2.2) ?_
    refine XS.aload X13.here hx rfl (hb hby at_85) rfl rfl ?_
    show Steps _ _ _ (T13.setTop (mkF m 87 (own_P p1 p2 p3 p4 q5 q6 (.val (.int (p1 &&& (3 : Int32)))) (.val (.ref sI)) (.val (.ref s0)) (.val (.ref s1)) (.val (.ref s2)) (.val (.ref s3)) (.val (.ref b12)) .unset .unset) [(.ref b12)])) _
    refine st14 _ ?_
    show Steps _ _ _ (T14.setTop (mkF m 90 (own_P p1 p2 p3 p4 q5 q6 (.val (.int (p1 &&& (3 : Int32)))) (.val (.ref sI)) (.val (.ref s0)) (.val (.ref s1)) (.val (.ref s2)) (.val (.ref s3)) (.val (.ref b12)) .unset .unset) [(.ref b14), (.ref b12)])) _
    refine XS.dup X14.here hx rfl (hb hby at_90) rfl rfl ?_
    refine XS.aload X14.here hx rfl (hb hby at_91) rfl rfl ?_
    refine XS.aload X14.here hx rfl (hb hby at_93) rfl rfl ?_
    refine XS.aload X14.here hx rfl (hb hby at_95) rfl rfl ?_
    show Steps _ _ _ (T14.setTop (mkF m 97 (own_P p1 p2 p3 p4 q5 q6 (.val (.int (p1 &&& (3 : Int32)))) (.val (.ref sI)) (.val (.ref s0)) (.val (.ref s1)) (.val (.ref s2)) (.val (.ref s3)) (.val (.ref b12)) .unset .unset) [(.ref s2), (.ref s1), (.ref s0), (.ref b14), (.ref b14), (.ref b12)])) _
    refine XS.aload X14.here hx rfl (hb hby at_97) rfl rfl ?_
    show Steps _ _ _ (T14.setTop (mkF m 99 (own_P p1 p2 p3 p4 q5 q6 (.val (.int (p1 &&& (3 : Int32)))) (.val (.ref sI)) (.val (.ref s0)) (.val (.ref s1)) (.val (.ref s2)) (.val (.ref s3)) (.val (.ref b12)) .unset .unset) [(.ref s3), (.ref s2), (.ref s1), (.ref s0), (.ref b14), (.ref b14), (.ref b12)])) _
    refine st15.trans ?_
    show Steps _ _ _ (T15.setTop (mkF m 102 (own_P p1 p2 p3 p4 q5 q6 (.val (.int (p1 &&& (3 : Int32)))) (.val (.ref sI)) (.val (.ref s0)) (.val (.ref s1)) (.val (.ref s2)) (.val (.ref s3)) (.val (.ref b12)) .unset .unset) [(.ref b14), (.ref b12)])) _
    refine st16.trans ?_
    show Steps _ _ _ (T16.setTop (mkF m 107 (own_P p1 p2 p3 p4 q5 q6 (.val (.int (p1 &&& (3 : Int32)))) (.val (.ref sI)) (.val (.ref s0)) (.val (.ref s1)) (.val (.ref s2)) (.val (.ref s3)) (.val (.ref b12)) .unset .unset) [(.int (1 : Int32))])) _
    refine XS.pop X16.here hx rfl (hb hby at_107) rfl rfl ?_
    refine XS.iload X16.here hx rfl (hb hby at_108) rfl ?_
    refine XS.iconst X16.here hx rfl (hb hby at_110) ?_
    refine XS.icmpNo X16.here hx rfl (hb hby at_111) rfl (tlt hc111).2.2.2 ?_
    show Steps _ _ _ (T16.setTop (mkF m 114 (own_P p1 p2 p3 p4 q5 q6 (.val (.int (p1 &&& (3 : Int32)))) (.val (.ref sI)) (.val (.ref s0)) (.val (.ref s1)) (.val (.ref s2)) (.val (.ref s3)) (.val (.ref b12)) .unset .unset) [])) _
    refine XS.aload X16.here hx rfl (hb hby at_114) rfl rfl ?_
    show Steps _ _ _ (T16.setTop (mkF m 116 (own_P p1 p2 p3 p4 q5 q6 (.val (.int (p1 &&& (3 : Int32)))) (.val (.ref sI)) (.val (.ref s0)) (.val (.ref s1)) (.val (.ref s2)) (.val (.ref s3)) (.val (.ref b12)) .unset .unset) [(.ref b12)])) _
    refine st17 _ ?_
    show Steps _ _ _ (T17.setTop (mkF m 119 (own_P p1 p2 p3 p4 q5 q6 (.val (.int (p1 &&& (3 : Int32)))) (.val (.ref sI)) (.val (.ref s0)) (.val (.ref s1)) (.val (.ref s2)) (.val (.ref s3)) (.val (.ref b12)) .unset .unset) [(.ref b17), (.ref b12)])) _
    refine XS.dup X17.here hx rfl (hb hby at_119) rfl rfl ?_
    refine XS.aload X17.here hx rfl (hb hby at_120) rfl rfl ?_
    refine XS.aload X17.here hx rfl (hb hby at_122) rfl rfl ?_
    refine XS.aload X17.here hx rfl (hb hby at_124) rfl rfl ?_
    show Steps _ _ _ (T17.setTop (mkF m 126 (own_P p1 p2 p3 p4 q5 q6 (.val (.int (p1 &&& (3 : Int32)))) (.val (.ref sI)) (.val (.ref s0)) (.val (.ref s1)) (.val (.ref s2)) (.val (.ref s3)) (.val (.ref b12)) .unset .unset) [(.ref s3), (.ref s2), (.ref s1), (.ref b17), (.ref b17), (.ref b12)])) _
    refine XS.aload X17.here hx rfl (hb hby at_126) rfl rfl ?_
    show Steps _ _ _ (T17.setTop (mkF m 128 (own_P p1 p2 p3 p4 q5 q6 (.val (.int (p1 &&& (3 : Int32)))) (.val (.ref sI)) (.val (.ref s0)) (.val (.ref s1)) (.val (.ref s2)) (.val (.ref s3)) (.val (.ref b12)) .unset .unset) [(.ref s0), (.ref s3), (.ref s2), (.ref s1), (.ref b17), (.ref b17), (.ref b12)])) _
    refine st18.trans ?_
    show Steps _ _ _ (T18.setTop (mkF m 131 (own_P p1 p2 p3 p4 q5 q6 (.val (.int (p1 &&& (3 : Int32)))) (.val (.ref sI)) (.val (.ref s0)) (.val (.ref s1)) (.val (.ref s2)) (.val (.ref s3)) (.val (.ref b12)) .unset .unset) [(.ref b17), (.ref b12)])) _
    refine st19.trans ?_
    show Steps _ _ _ (T19.setTop (mkF m 136 (own_P p1 p2 p3 p4 q5 q6 (.val (.int (p1 &&& (3 : Int32)))) (.val (.ref sI)) (.val (.ref s0)) (.val (.ref s1)) (.val (.ref s2)) (.val (.ref s3)) (.val (.ref b12)) .unset .unset) [(.int (1 : Int32))])) _
    refine XS.pop X19.here hx rfl (hb hby at_136) rfl rfl ?_
    refine XS.iload X19.here hx rfl (hb hby at_137) rfl ?_
    refine XS.iconst X19.here hx rfl (hb hby at_139) ?_
    refine XS.icmpYes X19.here hx rfl (pc0 := 140) (pc' := 166) rfl (hb hby at_140) rfl (flt hc140).2.2.2 (by decide) (by decide) ?_
    show Steps _ _ _ (T19.setTop (mkF m 166 (own_P p1 p2 p3 p4 q5 q6 (.val (.int (p1 &&& (3 : Int32)))) (.val (.ref sI)) (.val (.ref s0)) (.val (.ref s1)) (.val (.ref s2)) (.val (.ref s3)) (.val (.ref b12)) .unset .unset) [])) _
    refine st20 _ ?_
    show Steps _ _ _ (T20.setTop (mkF m 169 (own_P p1 p2 p3 p4 q5 q6 (.val (.int (p1 &&& (3 : Int32)))) (.val (.ref sI)) (.val (.ref s0)) (.val (.ref s1)) (.val (.ref s2)) (.val (.ref s3)) (.val (.ref b12)) .unset .unset) [(.ref b20)])) _
    refine XS.dup X20.here hx rfl (hb hby at_169) rfl rfl ?_
    show Steps _ _ _ (T20.setTop (mkF m 170 (own_P p1 p2 p3 p4 q5 q6 (.val (.int (p1 &&& (3 : Int32)))) (.val (.ref sI)) (.val (.ref s0)) (.val (.ref s1)) (.val (.ref s2)) (.val (.ref s3)) (.val (.ref b12)) .unset .unset) [(.ref b20), (.ref b20)])) _
    refine st21.trans ?_
    show Steps _ _ _ (T21.setTop (mkF m 173 (own_P p1 p2 p3 p4 q5 q6 (.val (.int (p1 &&& (3 : Int32)))) (.val (.ref sI)) (.val (.ref s0)) (.val (.ref s1)) (.val (.ref s2)) (.val (.ref s3)) (.val (.ref b12)) .unset .unset) [(.ref b20)])) _
    refine XS.astore X21.here hx rfl (hb hby at_173) rfl rfl (l' := (own_P p1 p2 p3 p4 q5 q6 (.val (.int (p1 &&& (3 : Int32)))) (.val (.ref sI)) (.val (.ref s0)) (.val (.ref s1)) (.val (.ref s2)) (.val (.ref s3)) (.val (.ref b12)) (.val (.ref b20)) .unset)) rfl ?_
    refine XS.aload X21.here hx rfl (hb hby at_175) rfl rfl ?_
    refine XS.lload X21.here hx rfl (hb hby at_177) rfl ?_
    show Steps _ _ _ (T21.setTop (mkF m 179 (own_P p1 p2 p3 p4 q5 q6 (.val (.int (p1 &&& (3 : Int32)))) (.val (.ref sI)) (.val (.ref s0)) (.val (.ref s1)) (.val (.ref s2)) (.val (.ref s3)) (.val (.ref b12)) (.val (.ref b20)) .unset) [(.long q5), (.ref b20)])) _
    refine st22 _ ?_
    show Steps _ _ _ (T22.setTop (mkF m 182 (own_P p1 p2 p3 p4 q5 q6 (.val (.int (p1 &&& (3 : Int32)))) (.val (.ref sI)) (.val (.ref s0)) (.val (.ref s1)) (.val (.ref s2)) (.val (.ref s3)) (.val (.ref b12)) (.val (.ref b20)) .unset) [(.ref bV), (.ref b20)])) _
    refine st23.trans ?_
    show Steps _ _ _ (T23.setTop (mkF m 187 (own_P p1 p2 p3 p4 q5 q6 (.val (.int (p1 &&& (3 : Int32)))) (.val (.ref sI)) (.val (.ref s0)) (.val (.ref s1)) (.val (.ref s2)) (.val (.ref s3)) (.val (.ref b12)) (.val (.ref b20)) .unset) [(.int (1 : Int32))])) _
    refine XS.pop X23.here hx rfl (hb hby at_187) rfl rfl ?_
    show Steps _ _ _ (T23.setTop (mkF m 188 (own_P p1 p2 p3 p4 q5 q6 (.val (.int (p1 &&& (3 : Int32)))) (.val (.ref sI)) (.val (.ref s0)) (.val (.ref s1)) (.val (.ref s2)) (.val (.ref s3)) (.val (.ref b12)) (.val (.ref b20)) .unset) [])) _
    refine st24 _ ?_
    show Steps _ _ _ (T24.setTop (mkF m 191 (own_P p1 p2 p3 p4 q5 q6 (.val (.int (p1 &&& (3 : Int32)))) (.val (.ref sI)) (.val (.ref s0)) (.val (.ref s1)) (.val (.ref s2)) (.val (.ref s3)) (.val (.ref b12)) (.val (.ref b20)) .unset) [(.ref b24)])) _
    refine XS.dup X24.here hx rfl (hb hby at_191) rfl rfl ?_
    show Steps _ _ _ (T24.setTop (mkF m 192 (own_P p1 p2 p3 p4 q5 q6 (.val (.int (p1 &&& (3 : Int32)))) (.val (.ref sI)) (.val (.ref s0)) (.val (.ref s1)) (.val (.ref s2)) (.val (.ref s3)) (.val (.ref b12)) (.val (.ref b20)) .unset) [(.ref b24), (.ref b24)])) _
    refine st25 _ ?_
    show Steps _ _ _ (T25.setTop (mkF m 195 (own_P p1 p2 p3 p4 q5 q6 (.val (.int (p1 &&& (3 : Int32)))) (.val (.ref sI)) (.val (.ref s0)) (.val (.ref s1)) (.val (.ref s2)) (.val (.ref s3)) (.val (.ref b12)) (.val (.ref b20)) .unset) [(.ref b25), (.ref b24), (.ref b24)])) _
    refine XS.dup X25.here hx rfl (hb hby at_195) rfl rfl ?_
    refine XS.aload X25.here hx rfl (hb hby at_196) rfl rfl ?_
    refine XS.aload X25.here hx rfl (hb hby at_198) rfl rfl ?_
    show Steps _ _ _ (T25.setTop (mkF m 200 (own_P p1 p2 p3 p4 q5 q6 (.val (.int (p1 &&& (3 : Int32)))) (.val (.ref sI)) (.val (.ref s0)) (.val (.ref s1)) (.val (.ref s2)) (.val (.ref s3)) (.val (.ref b12)) (.val (.ref b20)) .unset) [(.ref b12), (.ref sI), (.ref b25), (.ref b25), (.ref b24), (.ref b24)])) _
    refine st26.trans ?_
    show Steps _ _ _ (T26.setTop (mkF m 203 (own_P p1 p2 p3 p4 q5 q6 (.val (.int (p1 &&& (3 : Int32)))) (.val (.ref sI)) (.val (.ref s0)) (.val (.ref s1)) (.val (.ref s2)) (.val (.ref s3)) (.val (.ref b12)) (.val (.ref b20)) .unset) [(.ref b25), (.ref b24), (.ref b24)])) _
    refine XS.iloadN X26.here hx rfl (hb hby at_203) rfl ?_
    refine XS.iloadN X26.here hx rfl (hb hby at_204) rfl ?_
    refine XS.lload X26.here hx rfl (hb hby at_205) rfl ?_
    refine XS.lload X26.here hx rfl (hb hby at_207) rfl ?_
    show Steps _ _ _ (T26.setTop (mkF m 209 (own_P p1 p2 p3 p4 q5 q6 (.val (.int (p1 &&& (3 : Int32)))) (.val (.ref sI)) (.val (.ref s0)) (.val (.ref s1)) (.val (.ref s2)) (.val (.ref s3)) (.val (.ref b12)) (.val (.ref b20)) .unset) [(.long q6), (.long q5), (.int p4), (.int p3), (.ref b25), (.ref b24), (.ref b24)])) _
    refine XS.aload X26.here hx rfl (hb hby at_209) rfl rfl ?_
    refine XS.aconstNull X26.here hx rfl (hb hby at_211) ?_
    refine XS.aconstNull X26.here hx rfl (hb hby at_212) ?_
    show Steps _ _ _ (T26.setTop (mkF m 213 (own_P p1 p2 p3 p4 q5 q6 (.val (.int (p1 &&& (3 : Int32)))) (.val (.ref sI)) (.val (.ref s0)) (.val (.ref s1)) (.val (.ref s2)) (.val (.ref s3)) (.val (.ref b12)) (.val (.ref b20)) .unset) [.null, .null, (.ref b20), (.long q6), (.long q5), (.int p4), (.int p3), (.ref b25), (.ref b24), (.ref b24)])) _
    refine st27 _ ?_
    show Steps _ _ _ (T27.setTop (mkF m 216 (own_P p1 p2 p3 p4 q5 q6 (.val (.int (p1 &&& (3 : Int32)))) (.val (.ref sI)) (.val (.ref s0)) (.val (.ref s1)) (.val (.ref s2)) (.val (.ref s3)) (.val (.ref b12)) (.val (.ref b20)) .unset) [(.ref b27), .null, .null, (.ref b20), (.long q6), (.long q5), (.int p4), (.int p3), (.ref b25), (.ref b24), (.ref b24)])) _
    refine XS.dup X27.here hx rfl (hb hby at_216) rfl rfl ?_
    show Steps _ _ _ (T27.setTop (mkF m 217 (own_P p1 p2 p3 p4 q5 q6 (.val (.int (p1 &&& (3 : Int32)))) (.val (.ref sI)) (.val (.ref s0)) (.val (.ref s1)) (.val (.ref s2)) (.val (.ref s3)) (.val (.ref b12)) (.val (.ref b20)) .unset) [(.ref b27), (.ref b27), .null, .null, (.ref b20), (.long q6), (.long q5), (.int p4), (.int p3), (.ref b25), (.ref b24), (.ref b24)])) _
    refine st28.trans ?_
    show Steps _ _ _ (T28.setTop (mkF m 220 (own_P p1 p2 p3 p4 q5 q6 (.val (.int (p1 &&& (3 : Int32)))) (.val (.ref sI)) (.val (.ref s0)) (.val (.ref s1)) (.val (.ref s2)) (.val (.ref s3)) (.val (.ref b12)) (.val (.ref b20)) .unset) [(.ref b27), .null, .null, (.ref b20), (.long q6), (.long q5), (.int p4), (.int p3), (.ref b25), (.ref b24), (.ref b24)])) _
    refine st29.trans ?_
    show Steps _ _ _ (T29.setTop (mkF m 223 (own_P p1 p2 p3 p4 q5 q6 (.val (.int (p1 &&& (3 : Int32)))) (.val (.ref sI)) (.val (.ref s0)) (.val (.ref s1)) (.val (.ref s2)) (.val (.ref s3)) (.val (.ref b12)) (.val (.ref b20)) .unset) [(.ref b24)])) _
    refine XS.astore X29.here hx rfl (hb hby at_223) rfl rfl (l' := (own_P p1 p2 p3 p4 q5 q6 (.val (.int (p1 &&& (3 : Int32)))) (.val (.ref sI)) (.val (.ref s0)) (.val (.ref s1)) (.val (.ref s2)) (.val (.ref s3)) (.val (.ref b12)) (.val (.ref b20)) (.val (.ref b24)))) rfl ?_
    refine XS.aload X29.here hx rfl (hb hby at_225) rfl rfl ?_
    show Steps _ _ _ (T29.setTop (mkF m 227 (own_P p1 p2 p3 p4 q5 q6 (.val (.int (p1 &&& (3 : Int32)))) (.val (.ref sI)) (.val (.ref s0)) (.val (.ref s1)) (.val (.ref s2)) (.val (.ref s3)) (.val (.ref b12)) (.val (.ref b20)) (.val (.ref b24))) [(.ref b24)])) _
    refine st30.trans ?_
    show Steps _ _ _ (T30.setTop (mkF m 230 (own_P p1 p2 p3 p4 q5 q6 (.val (.int (p1 &&& (3 : Int32)))) (.val (.ref sI)) (.val (.ref s0)) (.val (.ref s1)) (.val (.ref s2)) (.val (.ref s3)) (.val (.ref b12)) (.val (.ref b20)) (.val (.ref b24))) [(.int (2 : Int32))])) _
    refine XS.iload X30.here hx rfl (hb hby at_230) rfl ?_
    refine XS.icmpNo X30.here hx rfl (hb hby at_232) rfl (teq hc232).2 ?_
    refine XS.iconst X30.here hx rfl (hb hby at_235) ?_
    refine XS.goto X30.here hx rfl (pc0 := 236) (pc' := 240) rfl (hb hby at_236) (by decide) (by decide) ?_
    show Steps _ _ _ (T30.setTop (mkF m 240 (own_P p1 p2 p3 p4 q5 q6 (.val (.int (p1 &&& (3 : Int32)))) (.val (.ref sI)) (.val (.ref s0)) (.val (.ref s1)) (.val (.ref s2)) (.val (.ref s3)) (.val (.ref b12)) (.val (.ref b20)) (.val (.ref b24))) [(.int (1 : Int32))])) _
    exact retN X30 hx (t := .boolean) Bd.returns (by simp) (hb hby at_240) hr
  · show Q_law2 Z p1 p2 p3 p4 q5 q6 cs wD wM wL wE0 wO aM cD cE0 h0 n0 _ T30.heap _
    rw [K30]
    exact ⟨rfl, N30⟩
def Q_law3 (Z : State) (p1 : Int32) (p2 : Int32) (p3 : Int32) (p4 : Int32) (q5 : Int64) (q6 : Int64) (cs : Int32) (wD : Addr) (wM : Addr) (wL : Addr) (wE0 : Addr) (wO : Addr) (aM : Addr) (cD : Cell) (cE0 : Cell) (h0 : Heap) (n0 : Nat) (v : Option Value) (h : Heap) (L : List Loc) : Prop := v = some (.int (1 : Int32)) ∧ Fr n0 L
theorem rm_law3 (l : Launch) (Z : State) (a0 : Array Value) (hw : ∀ d ∈ tables_1, d.before a0 Z = true) (ws : List Jvm.Cond) (p1 : Int32) (p2 : Int32) (p3 : Int32) (p4 : Int32) (q5 : Int64) (q6 : Int64) (cs : Int32) (wD : Addr) (wM : Addr) (wL : Addr) (wE0 : Addr) (wO : Addr) (aM : Addr) (cD : Cell) (cE0 : Cell) (h0 : Heap) (n0 : Nat) (Z0 : n0 ≤ h0.size) (Ol : Old Z n0 h0) (S_CS : Sta Z Z.heap "java/lang/String" "COMPACT_STRINGS" "Z" (.int cs)) (hcs : ¬ (cs = (0 : Int32))) (S_DC : Sta Z Z.heap "java/util/ArrayList" "DEFAULTCAPACITY_EMPTY_ELEMENTDATA" "[Ljava/lang/Object;" (.ref wD)) (A_D : Arr Z Z.heap wD cD (.object "java/lang/Object")) (hszD : cD.slots.size = (0 : Int32).toNatClampNeg) (S_EMPTY_MAP : Sta Z Z.heap "java/util/ImmutableCollections" "EMPTY_MAP" "Ljava/util/ImmutableCollections$MapN;" (.ref wM)) (E_M : Exa Z Z.heap wM "java/util/ImmutableCollections$MapN") (F_M : Fld Z Z.heap wM "java/util/ImmutableCollections$MapN" "size" "I" (.int (0 : Int32))) (S_EMPTY_LIST : Sta Z Z.heap "java/util/ImmutableCollections" "EMPTY_LIST" "Ljava/util/ImmutableCollections$ListN;" (.ref wL)) (E_L : Exa Z Z.heap wL "java/util/ImmutableCollections$ListN") (F_L : Fld Z Z.heap wL "java/util/ImmutableCollections$ListN" "elements" "[Ljava/lang/Object;" (.ref wE0)) (A_L : Arr Z Z.heap wE0 cE0 (.object "java/lang/Object")) (hszL : cE0.slots.size = (0 : Int32).toNatClampNeg) (S_EMPTY : Sta Z Z.heap "java/util/ImmutableCollections" "EMPTY" "Ljava/lang/Object;" (.ref wO)) (E_O : Exa Z Z.heap wO "java/lang/Object") (Mr : own_mir Z "[Ljava/lang/Object;" aM) (HL : ∀ (h0 : Heap), n0 ≤ h0.size → Old Z n0 h0 → MetFree l own_y1 (head1 (Jvm.Cond.code own_y1 jdk_35_method_24_code 3 (some (.object "java/lang/Long")) :: []) own_r1) (fun a U => a = #[(.long q5)] ∧ Z.Warmed39 U.vm ∧ U.heap = h0) (fun _ _ _ _ _ => True) (fun _ U o U' => ∃ v L, o = .returned v ∧ Q_lv Z h0 n0 v U'.heap L ∧ FrameEnd  U o U' L own_r1.cells own_r1.slots)) (hc82 : (0 : Int32) < (p1 &&& (3 : Int32))) (hc111 : (1 : Int32) < (p1 &&& (3 : Int32))) (hc140 : (2 : Int32) < (p1 &&& (3 : Int32))) (hc232 : (3 : Int32) = (p1 &&& (3 : Int32))) :
    MetFree l x (head1 (Jvm.Cond.code x code maxLocals ret :: ws) room_1) (fun a U => a = #[(.int p1), (.int p2), (.int p3), (.int p4), (.long q5), (.long q6)] ∧ Z.Warmed39 U.vm ∧ U.heap = h0) (fun _ _ _ _ _ => True) (fun _ U o U' => ∃ v L, o = .returned v ∧ Q_law3 Z p1 p2 p3 p4 q5 q6 cs wD wM wL wE0 wO aM cD cE0 h0 n0 v U'.heap L ∧ ReturnedEndW U o U' L room_1.cells room_1.slots) := by
  refine MetFree.of_bodySF (plainFor_of_name pn_0) hisR ?_
  intro p e s m args below meth c s₁ Bd hml0 hP hK
  obtain ⟨rfl, hZ, hh⟩ := hP
  have hx := Bd.exec
  have hby := Bd.bytes
  have hml : c.maxLocals = 17 := hml0
  have hown : s.vm.findClass "com/example/arcrover/arcrover/ExplorationTransitionsPinLaw" = some m.cls := findClass_of_methodNamed Bd.named
  have hnm := (name_of_methodNamed Bd.named Bd.method).1
  have X0 : Stand p l e room_1 (s.setVm s.vm) m #[(.int p1), (.int p2), (.int p3), (.int p4), (.long q5), (.long q6)] below meth c s₁ [] 0 0 := Stand.of_body Bd
  have hS : s.Since s.vm s.heap.size := (State.WarmedH.refl s).since s.heap.size
  have hk : s.heap.size ≤ h0.size := Nat.le_of_eq (congrArg Array.size hh)
  have e0 : s₁.heap = h0 := by rw [← hh, Bd.state]; rfl
  have N0 := Fr.nil n0
  have pre0 : ∀ t, Steps p.tables e below (s₁.setTop (mkF m 0 (own_P p1 p2 p3 p4 q5 q6 .unset .unset .unset .unset .unset .unset .unset .unset .unset) [])) t → Steps p.tables e below (s₁.setTop (entryFrame m #[(.int p1), (.int p2), (.int p3), (.int p4), (.long q5), (.long q6)] maxLocals)) t := fun t k => castTop (ef_0 m p1 p2 p3 p4 q5 q6) k
  obtain ⟨_, _, ⟨T7, L7, k7, n7⟩, -, X7, ⟨Lc7, hQ7, l7, y7, z7⟩, st7⟩ := Jvm.LawKit.callS X0 hx (y := own_y0) hown (mvT hZ (own_w hw 0 rfl)) (mvT hZ (own_w hw 1 rfl)) (mvT hZ (own_w hw 2 rfl)) (mvT hZ (own_w hw 3 rfl)) (by decide) (backOf (W := 0) (rm_vof l Z a0 hw [] ((((p1.toUInt32 >>> ((2 : Int32) &&& 31).toUInt32).toInt32) &&& (255 : Int32)).toUInt32.toUInt16.toUInt32.toInt32) cs h0 n0 Z0 Ol S_CS (own_c255 _) hcs) hZ (own_w hw 3 rfl) (own_w hw 2 rfl) (by decide) (by decide)) (g := (mkF m 13 (own_P p1 p2 p3 p4 q5 q6 (.val (.int (p1 &&& (3 : Int32)))) .unset .unset .unset .unset .unset .unset .unset .unset) [(.int ((((p1.toUInt32 >>> ((2 : Int32) &&& 31).toUInt32).toInt32) &&& (255 : Int32)).toUInt32.toUInt16.toUInt32.toInt32))])) rfl (by rw [hml]; rfl) (argsL := [(.int ((((p1.toUInt32 >>> ((2 : Int32) &&& 31).toUInt32).toInt32) &&& (255 : Int32)).toUInt32.toUInt16.toUInt32.toInt32))]) (rest := []) (lenOf pd_0_0 rfl) rfl (Nat.le_of_eq rfl) (hb hby at_13) (fun _ _ => ⟨rfl, e0, (by decide : 0 + 2 ≤ _), (by decide : 0 + 5 ≤ _)⟩)
  dsimp only [Pt.U, Pt.locs, Pt.cells, Pt.slots] at X7 l7 y7 z7 st7 hQ7
  subst l7 y7 z7
  obtain ⟨sI, rfl, N7q, Ex7⟩ := hQ7
  have N7 := Fr.app N0 N7q
  have Kc7 : Keep h0 T7.heap [] := (Keep.refl h0 []).ext Ex7
  have Ol := (Ol.ext Ex7)
  have Z0 : n0 ≤ _ := (Nat.le_trans Z0 Ex7.1)
  obtain ⟨_, _, ⟨T8, L8, k8, n8⟩, -, X8, ⟨Lc8, hQ8, l8, y8, z8⟩, st8⟩ := Jvm.LawKit.callS X7 hx (y := own_y0) hown (mvT hZ (own_w hw 0 rfl)) (mvT hZ (own_w hw 1 rfl)) (mvT hZ (own_w hw 2 rfl)) (mvT hZ (own_w hw 3 rfl)) (by decide) (backOf (W := 0) (rm_vof l Z a0 hw [] ((p2 &&& (255 : Int32)).toUInt32.toUInt16.toUInt32.toInt32) cs T7.heap n0 Z0 Ol S_CS (own_c255 _) hcs) hZ (own_w hw 3 rfl) (own_w hw 2 rfl) (by decide) (by decide)) (g := (mkF m 24 (own_P p1 p2 p3 p4 q5 q6 (.val (.int (p1 &&& (3 : Int32)))) (.val (.ref sI)) .unset .unset .unset .unset .unset .unset .unset) [(.int ((p2 &&& (255 : Int32)).toUInt32.toUInt16.toUInt32.toInt32))])) rfl (by rw [hml]; rfl) (argsL := [(.int ((p2 &&& (255 : Int32)).toUInt32.toUInt16.toUInt32.toInt32))]) (rest := []) (lenOf pd_0_0 rfl) rfl (Nat.le_of_eq rfl) (hb hby at_24) (fun _ _ => ⟨rfl, rfl, (by decide : 2 + 2 ≤ _), (by decide : 5 + 5 ≤ _)⟩)
  dsimp only [Pt.U, Pt.locs, Pt.cells, Pt.slots] at X8 l8 y8 z8 st8 hQ8
  subst l8 y8 z8
  obtain ⟨s0, rfl, N8q, Ex8⟩ := hQ8
  have N8 := Fr.app N7 N8q
  have Kc8 : Keep h0 T8.heap [] := Kc7.ext Ex8
  have Ol := (Ol.ext Ex8)
  have Z0 : n0 ≤ _ := (Nat.le_trans Z0 Ex8.1)
  obtain ⟨_, _, ⟨T9, L9, k9, n9⟩, -, X9, ⟨Lc9, hQ9, l9, y9, z9⟩, st9⟩ := Jvm.LawKit.callS X8 hx (y := own_y0) hown (mvT hZ (own_w hw 0 rfl)) (mvT hZ (own_w hw 1 rfl)) (mvT hZ (own_w hw 2 rfl)) (mvT hZ (own_w hw 3 rfl)) (by decide) (backOf (W := 0) (rm_vof l Z a0 hw [] ((((p2.toUInt32 >>> ((8 : Int32) &&& 31).toUInt32).toInt32) &&& (255 : Int32)).toUInt32.toUInt16.toUInt32.toInt32) cs T8.heap n0 Z0 Ol S_CS (own_c255 _) hcs) hZ (own_w hw 3 rfl) (own_w hw 2 rfl) (by decide) (by decide)) (g := (mkF m 38 (own_P p1 p2 p3 p4 q5 q6 (.val (.int (p1 &&& (3 : Int32)))) (.val (.ref sI)) (.val (.ref s0)) .unset .unset .unset .unset .unset .unset) [(.int ((((p2.toUInt32 >>> ((8 : Int32) &&& 31).toUInt32).toInt32) &&& (255 : Int32)).toUInt32.toUInt16.toUInt32.toInt32))])) rfl (by rw [hml]; rfl) (argsL := [(.int ((((p2.toUInt32 >>> ((8 : Int32) &&& 31).toUInt32).toInt32) &&& (255 : Int32)).toUInt32.toUInt16.toUInt32.toInt32))]) (rest := []) (lenOf pd_0_0 rfl) rfl (Nat.le_of_eq rfl) (hb hby at_38) (fun _ _ => ⟨rfl, rfl, (by decide : 4 + 2 ≤ _), (by decide : 10 + 5 ≤ _)⟩)
  dsimp only [Pt.U, Pt.locs, Pt.cells, Pt.slots] at X9 l9 y9 z9 st9 hQ9
  subst l9 y9 z9
  obtain ⟨s1, rfl, N9q, Ex9⟩ := hQ9
  have N9 := Fr.app N8 N9q
  have Kc9 : Keep h0 T9.heap [] := Kc8.ext Ex9
  have Ol := (Ol.ext Ex9)
  have Z0 : n0 ≤ _ := (Nat.le_trans Z0 Ex9.1)
  obtain ⟨_, _, ⟨T10, L10, k10, n10⟩, -, X10, ⟨Lc10, hQ10, l10, y10, z10⟩, st10⟩ := Jvm.LawKit.callS X9 hx (y := own_y0) hown (mvT hZ (own_w hw 0 rfl)) (mvT hZ (own_w hw 1 rfl)) (mvT hZ (own_w hw 2 rfl)) (mvT hZ (own_w hw 3 rfl)) (by decide) (backOf (W := 0) (rm_vof l Z a0 hw [] ((((p2.toUInt32 >>> ((16 : Int32) &&& 31).toUInt32).toInt32) &&& (255 : Int32)).toUInt32.toUInt16.toUInt32.toInt32) cs T9.heap n0 Z0 Ol S_CS (own_c255 _) hcs) hZ (own_w hw 3 rfl) (own_w hw 2 rfl) (by decide) (by decide)) (g := (mkF m 52 (own_P p1 p2 p3 p4 q5 q6 (.val (.int (p1 &&& (3 : Int32)))) (.val (.ref sI)) (.val (.ref s0)) (.val (.ref s1)) .unset .unset .unset .unset .unset) [(.int ((((p2.toUInt32 >>> ((16 : Int32) &&& 31).toUInt32).toInt32) &&& (255 : Int32)).toUInt32.toUInt16.toUInt32.toInt32))])) rfl (by rw [hml]; rfl) (argsL := [(.int ((((p2.toUInt32 >>> ((16 : Int32) &&& 31).toUInt32).toInt32) &&& (255 : Int32)).toUInt32.toUInt16.toUInt32.toInt32))]) (rest := []) (lenOf pd_0_0 rfl) rfl (Nat.le_of_eq rfl) (hb hby at_52) (fun _ _ => ⟨rfl, rfl, (by decide : 6 + 2 ≤ _), (by decide : 15 + 5 ≤ _)⟩)
  dsimp only [Pt.U, Pt.locs, Pt.cells, Pt.slots] at X10 l10 y10 z10 st10 hQ10
  subst l10 y10 z10
  obtain ⟨s2, rfl, N10q, Ex10⟩ := hQ10
  have N10 := Fr.app N9 N10q
  have Kc10 : Keep h0 T10.heap [] := Kc9.ext Ex10
  have Ol := (Ol.ext Ex10)
  have Z0 : n0 ≤ _ := (Nat.le_trans Z0 Ex10.1)
  obtain ⟨_, _, ⟨T11, L11, k11, n11⟩, -, X11, ⟨Lc11, hQ11, l11, y11, z11⟩, st11⟩ := Jvm.LawKit.callS X10 hx (y := own_y0) hown (mvT hZ (own_w hw 0 rfl)) (mvT hZ (own_w hw 1 rfl)) (mvT hZ (own_w hw 2 rfl)) (mvT hZ (own_w hw 3 rfl)) (by decide) (backOf (W := 0) (rm_vof l Z a0 hw [] ((((p2.toUInt32 >>> ((24 : Int32) &&& 31).toUInt32).toInt32) &&& (255 : Int32)).toUInt32.toUInt16.toUInt32.toInt32) cs T10.heap n0 Z0 Ol S_CS (own_c255 _) hcs) hZ (own_w hw 3 rfl) (own_w hw 2 rfl) (by decide) (by decide)) (g := (mkF m 66 (own_P p1 p2 p3 p4 q5 q6 (.val (.int (p1 &&& (3 : Int32)))) (.val (.ref sI)) (.val (.ref s0)) (.val (.ref s1)) (.val (.ref s2)) .unset .unset .unset .unset) [(.int ((((p2.toUInt32 >>> ((24 : Int32) &&& 31).toUInt32).toInt32) &&& (255 : Int32)).toUInt32.toUInt16.toUInt32.toInt32))])) rfl (by rw [hml]; rfl) (argsL := [(.int ((((p2.toUInt32 >>> ((24 : Int32) &&& 31).toUInt32).toInt32) &&& (255 : Int32)).toUInt32.toUInt16.toUInt32.toInt32))]) (rest := []) (lenOf pd_0_0 rfl) rfl (Nat.le_of_eq rfl) (hb hby at_66) (fun _ _ => ⟨rfl, rfl, (by decide : 8 + 2 ≤ _), (by decide : 20 + 5 ≤ _)⟩)
  dsimp only [Pt.U, Pt.locs, Pt.cells, Pt.slots] at X11 l11 y11 z11 st11 hQ11
  subst l11 y11 z11
  obtain ⟨s3, rfl, N11q, Ex11⟩ := hQ11
  have N11 := Fr.app N10 N11q
  have Kc11 : Keep h0 T11.heap [] := Kc10.ext Ex11
  obtain ⟨T12, h12, X12, e12, E12, A12, D12, -, st12⟩ := newO X11 hx hZ hown (own_w hw 26 rfl) (own_w hw 27 rfl) (own_w hw 28 rfl) rfl (g := (mkF m 71 (own_P p1 p2 p3 p4 q5 q6 (.val (.int (p1 &&& (3 : Int32)))) (.val (.ref sI)) (.val (.ref s0)) (.val (.ref s1)) (.val (.ref s2)) (.val (.ref s3)) .unset .unset .unset) [])) rfl (hb hby at_71) (by decide) (by decide)
  obtain ⟨b12, g12⟩ : ∃ z, z = T11.heap.size := ⟨_, rfl⟩
  rw [← g12] at A12 D12 st12
  have F_modCount_b12 : Fld Z h12 b12 "java/util/AbstractList" "modCount" "I" (.int (0 : Int32)) := D12 (Or.inl (own_w hw 46 rfl)) (ty := .int) (by decide)
  have F_elementData_b12 : Fld Z h12 b12 "java/util/ArrayList" "elementData" "[Ljava/lang/Object;" .null := D12 (Or.inl (own_w hw 49 rfl)) (ty := (.array (.object "java/lang/Object"))) (by decide)
  have F_size_b12 : Fld Z h12 b12 "java/util/ArrayList" "size" "I" (.int (0 : Int32)) := D12 (Or.inl (own_w hw 82 rfl)) (ty := .int) (by decide)
  have E_b12 := A12
  have g_b12 : n0 ≤ b12 := Nat.le_trans (Nat.le_trans Z0 Ex11.1) (Nat.le_of_eq g12.symm)
  have sz_b12 : h0.size ≤ b12 := (Nat.le_trans Kc11.1 (Nat.le_of_eq g12.symm))
  have K12 : Keep h0 h12 [] := Kc11.ext E12
  have Ol := ((Ol.ext Ex11).ext E12)
  have Z0 : n0 ≤ _ := (Nat.le_trans (Nat.le_trans Z0 Ex11.1) E12.1)
  obtain ⟨_, _, ⟨T13, L13, k13, n13⟩, -, X13, ⟨Lc13, hQ13, l13, y13, z13⟩, st13⟩ := X12.specialBack hx (y := own_y3) rfl hown (mvT hZ (own_w hw 29 rfl)) (mvT hZ (own_w hw 30 rfl)) (mvT hZ (own_w hw 31 rfl)) (by decide) (backOf (W := 1) (rm_al l Z a0 hw [] b12 wD _ _ _ h12 n0 Z0 Ol S_DC E_b12 F_elementData_b12 F_size_b12 F_modCount_b12 g_b12) hZ (own_w hw 31 rfl) (own_w hw 28 rfl) (by decide) (by decide)) (g := (mkF m 75 (own_P p1 p2 p3 p4 q5 q6 (.val (.int (p1 &&& (3 : Int32)))) (.val (.ref sI)) (.val (.ref s0)) (.val (.ref s1)) (.val (.ref s2)) (.val (.ref s3)) .unset .unset .unset) [(.ref b12), (.ref b12)])) rfl (by rw [hml]; rfl) (Steps.refl _) (a := b12) (argsL := []) (rest := [(.ref b12)]) (lenOf pd_0_4 rfl) rfl (Nat.le_of_eq rfl) (hb hby at_75) (fun _ _ => ⟨rfl, e12, (by decide : 11 + 0 ≤ _), (by decide : 28 + 0 ≤ _)⟩)
  dsimp only [Pt.U, Pt.locs, Pt.cells, Pt.slots] at X13 l13 y13 z13 st13 hQ13
  subst l13 y13 z13
  obtain ⟨rfl, N13q, K13, El_b12, Fel_b12, Fsl_b12, Fml_b12⟩ := hQ13
  have N13 := Fr.app N11 N13q
  have Kc13 : Keep h0 T13.heap [] := K12.trans K13 (allS (Or.inr sz_b12) all0)
  obtain ⟨T14, h14, X14, e14, E14, A14, D14, -, st14⟩ := newO X13 hx hZ hown (own_w hw 292 rfl) (own_w hw 293 rfl) (own_w hw 294 rfl) rfl (g := (mkF m 87 (own_P p1 p2 p3 p4 q5 q6 (.val (.int (p1 &&& (3 : Int32)))) (.val (.ref sI)) (.val (.ref s0)) (.val (.ref s1)) (.val (.ref s2)) (.val (.ref s3)) (.val (.ref b12)) .unset .unset) [(.ref b12)])) rfl (hb hby at_87) (by decide) (by decide)
  obtain ⟨b14, g14⟩ : ∃ z, z = T13.heap.size := ⟨_, rfl⟩
  rw [← g14] at A14 D14 st14
  have F_source_b14 : Fld Z h14 b14 "com/example/arcrover/arcrover/Transition" "source" "Ljava/lang/String;" .null := D14 (Or.inr (own_w hw 305 rfl)) (ty := (.object "java/lang/String")) (by decide)
  have F_stimulus_b14 : Fld Z h14 b14 "com/example/arcrover/arcrover/Transition" "stimulus" "Ljava/lang/String;" .null := D14 (Or.inr (own_w hw 307 rfl)) (ty := (.object "java/lang/String")) (by decide)
  have F_reaction_b14 : Fld Z h14 b14 "com/example/arcrover/arcrover/Transition" "reaction" "Ljava/lang/String;" .null := D14 (Or.inr (own_w hw 309 rfl)) (ty := (.object "java/lang/String")) (by decide)
  have F_target_b14 : Fld Z h14 b14 "com/example/arcrover/arcrover/Transition" "target" "Ljava/lang/String;" .null := D14 (Or.inr (own_w hw 311 rfl)) (ty := (.object "java/lang/String")) (by decide)
  have E_b14 := A14
  have g_b14 : n0 ≤ b14 := Nat.le_trans (Nat.le_trans Z0 K13.1) (Nat.le_of_eq g14.symm)
  have sz_b14 : h0.size ≤ b14 := (Nat.le_trans Kc13.1 (Nat.le_of_eq g14.symm))
  have K14 : Keep h0 h14 [] := Kc13.ext E14
  have Z0 : n0 ≤ _ := (Nat.le_trans (Nat.le_trans Z0 K13.1) E14.1)
  obtain ⟨_, _, ⟨T15, L15, k15, n15⟩, -, X15, hSn15, hGr15, ⟨Lc15, hQ15, l15, y15, z15⟩, st15⟩ := X14.specialBackS hx (y := own_y19) rfl hown (mvT hZ (own_w hw 295 rfl)) (mvT hZ (own_w hw 296 rfl)) (mvT hZ (own_w hw 297 rfl)) (by decide) (backOfS (W := 2) (rm_tinit l Z a0 hw [] b14 s0 s1 s2 s3 _ _ _ _ h14 n0 Z0 E_b14 F_source_b14 g_b14 F_stimulus_b14 F_reaction_b14 F_target_b14) hZ (own_w hw 297 rfl) (own_w hw 294 rfl) (by decide) (by decide)) (g := (mkF m 99 (own_P p1 p2 p3 p4 q5 q6 (.val (.int (p1 &&& (3 : Int32)))) (.val (.ref sI)) (.val (.ref s0)) (.val (.ref s1)) (.val (.ref s2)) (.val (.ref s3)) (.val (.ref b12)) .unset .unset) [(.ref s3), (.ref s2), (.ref s1), (.ref s0), (.ref b14), (.ref b14), (.ref b12)])) rfl (by rw [hml]; rfl) (Steps.refl _) (a := b14) (argsL := [(.ref s0), (.ref s1), (.ref s2), (.ref s3)]) (rest := [(.ref b14), (.ref b12)]) (lenOf pd_0_29 rfl) rfl (Nat.le_of_eq rfl) (hb hby at_99) (fun _ _ => ⟨rfl, e14, (by decide : 12 + 8 ≤ _), (by decide : 32 + 128 ≤ _)⟩)
  dsimp only [Pt.U, Pt.locs, Pt.cells, Pt.slots] at X15 l15 y15 z15 st15 hQ15 hSn15 hGr15
  subst l15 y15 z15
  obtain ⟨rfl, N15q, K15, Ea15⟩ := hQ15
  have N15 := Fr.app N13 N15q
  replace X15 : Stand p l e _ (s.setVm T15.vm) m _ below meth c T15 _ _ _ := X15
  have hS := hS.trans hSn15 (Nat.le_trans (by rw [e14]; exact (Nat.le_trans (Nat.le_trans (Nat.le_trans (Nat.le_trans (Nat.le_trans (Nat.le_trans (Nat.le_trans (Nat.le_trans hk Ex7.1) Ex8.1) Ex9.1) Ex10.1) Ex11.1) E12.1) K13.1) E14.1)) hGr15)
  have hk : T15.heap.size ≤ T15.heap.size := Nat.le_refl _
  have hZ := State.Warmed39.trans (t := s.setVm _) hZ hSn15.1
  have hown : (s.setVm T15.vm).vm.findClass "com/example/arcrover/arcrover/ExplorationTransitionsPinLaw" = some m.cls := by rw [show (s.setVm T15.vm).vm = T15.vm from rfl, hSn15.1.alike.findClass]; exact hown
  have Kc15 : Keep h0 T15.heap [] := K14.trans K15 (allS (Or.inr sz_b14) all0)
  have f2 := ((El_b12.ext E14).keep K15)
  have f3 := ((Fel_b12.ext E14).keep K15 (ninS (Nat.ne_of_lt (Nat.lt_of_lt_of_le El_b12.lt (Nat.le_of_eq g14.symm))) (nin0)))
  have f4 := ((Fsl_b12.ext E14).keep K15 (ninS (Nat.ne_of_lt (Nat.lt_of_lt_of_le El_b12.lt (Nat.le_of_eq g14.symm))) (nin0)))
  have f5 := ((Fml_b12.ext E14).keep K15 (ninS (Nat.ne_of_lt (Nat.lt_of_lt_of_le El_b12.lt (Nat.le_of_eq g14.symm))) (nin0)))
  have Ol := (((Ol.keep K13 (allS g_b12 all0)).ext E14).keep K15 (allS g_b14 all0))
  have Z0 : n0 ≤ _ := (Nat.le_trans Z0 K15.1)
  have f1 := ((El_b12.ext E14).keep K15)
  obtain ⟨cq16, kq16, q16a, q16b, q16c⟩ := isOf hZ rfl f1
  obtain ⟨_, _, ⟨T16, L16, k16, n16⟩, -, X16, ⟨Lc16, hQ16, l16, y16, z16⟩, st16⟩ := X15.interfaceBack hx (xi := own_y11) (y := own_y4) hown (mvT hZ (own_w hw 70 rfl)) (mvT hZ (own_w hw 71 rfl)) (mvT hZ (own_w hw 72 rfl)) (mvT hZ (own_w hw 73 rfl)) (mvT hZ (own_w hw 74 rfl)) (mvT hZ (own_w hw 75 rfl)) (mvT hZ (own_w hw 76 rfl)) (mvT hZ (own_w hw 77 rfl)) (by decide) (backOf (W := 0) (rm_adda l Z a0 hw [] b12 b14 wD (0 : Int32) (0 : Int32) cD T15.heap n0 Z0 Ol S_DC f2 f3 f4 f5 (A_D.ext (Ol).2) hszD g_b12 (by decide) (Ins.of_exa Ea15 (own_w hw 312 rfl)) ((Ol).ne A_D.lt g_b12) rfl (by decide) (by decide)) hZ (own_w hw 78 rfl) (own_w hw 28 rfl) (by decide) (by decide)) q16a q16b q16c (g := (mkF m 102 (own_P p1 p2 p3 p4 q5 q6 (.val (.int (p1 &&& (3 : Int32)))) (.val (.ref sI)) (.val (.ref s0)) (.val (.ref s1)) (.val (.ref s2)) (.val (.ref s3)) (.val (.ref b12)) .unset .unset) [(.ref b14), (.ref b12)])) rfl (by rw [hml]; rfl) (Steps.refl _) (argsL := [(.ref b14)]) (rest := []) (lenOf pd_0_7 rfl) rfl (Nat.le_of_eq rfl) (hb hby at_102) (fun _ _ => ⟨rfl, rfl, (by decide : 20 + 1 ≤ _), (by decide : 160 + 10 ≤ _)⟩)
  dsimp only [Pt.U, Pt.locs, Pt.cells, Pt.slots] at X16 l16 y16 z16 st16 hQ16
  subst l16 y16 z16
  obtain ⟨bQ, kQ, rfl, N16q, Kg16, Eg_b12, Feg_b12, Fsg_b12, Fmg_b12, VQ, OQ, ggQ, szgQ, EaQ⟩ := hQ16
  have N16 := Fr.app N15 N16q
  have Kc16 : Keep h0 T16.heap [] := Kc15.trans Kg16 (allS (Or.inr sz_b12) all0)
  have hneQ : b12 ≠ bQ := by obtain ⟨c9, Ac, -⟩ := own_arr VQ; exact ne_arr Eg_b12 (own_w hw 27 rfl) Ac
  have szQ : h0.size ≤ bQ := Nat.le_trans (Kc15).1 szgQ
  obtain ⟨T17, h17, X17, e17, E17, A17, D17, -, st17⟩ := newO X16 hx hZ hown (own_w hw 292 rfl) (own_w hw 293 rfl) (own_w hw 294 rfl) rfl (g := (mkF m 116 (own_P p1 p2 p3 p4 q5 q6 (.val (.int (p1 &&& (3 : Int32)))) (.val (.ref sI)) (.val (.ref s0)) (.val (.ref s1)) (.val (.ref s2)) (.val (.ref s3)) (.val (.ref b12)) .unset .unset) [(.ref b12)])) rfl (hb hby at_116) (by decide) (by decide)
  obtain ⟨b17, g17⟩ : ∃ z, z = T16.heap.size := ⟨_, rfl⟩
  rw [← g17] at A17 D17 st17
  have F_source_b17 : Fld Z h17 b17 "com/example/arcrover/arcrover/Transition" "source" "Ljava/lang/String;" .null := D17 (Or.inr (own_w hw 305 rfl)) (ty := (.object "java/lang/String")) (by decide)
  have F_stimulus_b17 : Fld Z h17 b17 "com/example/arcrover/arcrover/Transition" "stimulus" "Ljava/lang/String;" .null := D17 (Or.inr (own_w hw 307 rfl)) (ty := (.object "java/lang/String")) (by decide)
  have F_reaction_b17 : Fld Z h17 b17 "com/example/arcrover/arcrover/Transition" "reaction" "Ljava/lang/String;" .null := D17 (Or.inr (own_w hw 309 rfl)) (ty := (.object "java/lang/String")) (by decide)
  have F_target_b17 : Fld Z h17 b17 "com/example/arcrover/arcrover/Transition" "target" "Ljava/lang/String;" .null := D17 (Or.inr (own_w hw 311 rfl)) (ty := (.object "java/lang/String")) (by decide)
  have E_b17 := A17
  have g_b17 : n0 ≤ b17 := Nat.le_trans (Nat.le_trans Z0 Kg16.1) (Nat.le_of_eq g17.symm)
  have sz_b17 : h0.size ≤ b17 := (Nat.le_trans Kc16.1 (Nat.le_of_eq g17.symm))
  have K17 : Keep h0 h17 [] := Kc16.ext E17
  have Z0 : n0 ≤ _ := (Nat.le_trans (Nat.le_trans Z0 Kg16.1) E17.1)
  obtain ⟨_, _, ⟨T18, L18, k18, n18⟩, -, X18, hSn18, hGr18, ⟨Lc18, hQ18, l18, y18, z18⟩, st18⟩ := X17.specialBackS hx (y := own_y19) rfl hown (mvT hZ (own_w hw 295 rfl)) (mvT hZ (own_w hw 296 rfl)) (mvT hZ (own_w hw 297 rfl)) (by decide) (backOfS (W := 2) (rm_tinit l Z a0 hw [] b17 s1 s2 s3 s0 _ _ _ _ h17 n0 Z0 E_b17 F_source_b17 g_b17 F_stimulus_b17 F_reaction_b17 F_target_b17) hZ (own_w hw 297 rfl) (own_w hw 294 rfl) (by decide) (by decide)) (g := (mkF m 128 (own_P p1 p2 p3 p4 q5 q6 (.val (.int (p1 &&& (3 : Int32)))) (.val (.ref sI)) (.val (.ref s0)) (.val (.ref s1)) (.val (.ref s2)) (.val (.ref s3)) (.val (.ref b12)) .unset .unset) [(.ref s0), (.ref s3), (.ref s2), (.ref s1), (.ref b17), (.ref b17), (.ref b12)])) rfl (by rw [hml]; rfl) (Steps.refl _) (a := b17) (argsL := [(.ref s1), (.ref s2), (.ref s3), (.ref s0)]) (rest := [(.ref b17), (.ref b12)]) (lenOf pd_0_29 rfl) rfl (Nat.le_of_eq rfl) (hb hby at_128) (fun _ _ => ⟨rfl, e17, (by decide : 22 + 8 ≤ _), (by decide : 174 + 128 ≤ _)⟩)
  dsimp only [Pt.U, Pt.locs, Pt.cells, Pt.slots] at X18 l18 y18 z18 st18 hQ18 hSn18 hGr18
  subst l18 y18 z18
  obtain ⟨rfl, N18q, K18, Ea18⟩ := hQ18
  have N18 := Fr.app N16 N18q
  replace X18 : Stand p l e _ (s.setVm T18.vm) m _ below meth c T18 _ _ _ := X18
  have hS := hS.trans hSn18 (Nat.le_trans (by rw [e17]; exact (Nat.le_trans (Nat.le_trans hk Kg16.1) E17.1)) hGr18)
  have hk : T18.heap.size ≤ T18.heap.size := Nat.le_refl _
  have hZ := State.Warmed39.trans (t := s.setVm _) hZ hSn18.1
  have hown : (s.setVm T18.vm).vm.findClass "com/example/arcrover/arcrover/ExplorationTransitionsPinLaw" = some m.cls := by rw [show (s.setVm T18.vm).vm = T18.vm from rfl, hSn18.1.alike.findClass]; exact hown
  have Kc18 : Keep h0 T18.heap [] := K17.trans K18 (allS (Or.inr sz_b17) all0)
  have f7 := ((Eg_b12.ext E17).keep K18)
  have f8 := ((Feg_b12.ext E17).keep K18 (ninS (Nat.ne_of_lt (Nat.lt_of_lt_of_le (((El_b12.ext E14).keep K15).keep Kg16).lt (Nat.le_of_eq g17.symm))) (nin0)))
  have f9 := ((Fsg_b12.ext E17).keep K18 (ninS (Nat.ne_of_lt (Nat.lt_of_lt_of_le (((El_b12.ext E14).keep K15).keep Kg16).lt (Nat.le_of_eq g17.symm))) (nin0)))
  have f10 := ((Fmg_b12.ext E17).keep K18 (ninS (Nat.ne_of_lt (Nat.lt_of_lt_of_le (((El_b12.ext E14).keep K15).keep Kg16).lt (Nat.le_of_eq g17.symm))) (nin0)))
  have f11 := ((VQ.ext E17).keep K18 (ninS (Nat.ne_of_lt (Nat.lt_of_lt_of_le VQ.lt (Nat.le_of_eq g17.symm))) (nin0)))
  have Z0 : n0 ≤ _ := (Nat.le_trans Z0 K18.1)
  have f6 := ((Eg_b12.ext E17).keep K18)
  obtain ⟨cq19, kq19, q19a, q19b, q19c⟩ := isOf hZ rfl f6
  obtain ⟨_, _, ⟨T19, L19, k19, n19⟩, -, X19, ⟨Lc19, hQ19, l19, y19, z19⟩, st19⟩ := X18.interfaceBack hx (xi := own_y11) (y := own_y4) hown (mvT hZ (own_w hw 70 rfl)) (mvT hZ (own_w hw 71 rfl)) (mvT hZ (own_w hw 72 rfl)) (mvT hZ (own_w hw 73 rfl)) (mvT hZ (own_w hw 74 rfl)) (mvT hZ (own_w hw 75 rfl)) (mvT hZ (own_w hw 76 rfl)) (mvT hZ (own_w hw 77 rfl)) (by decide) (backOf (W := 0) (rm_addb l Z a0 hw [] b12 b17 bQ ((0 : Int32) + (1 : Int32)) ((0 : Int32) + (1 : Int32)) kQ _ T18.heap n0 Z0 f7 f8 f9 f10 f11 (by simp) OQ ggQ hneQ g_b12 (Ins.of_exa Ea18 (own_w hw 312 rfl)) (by decide) (by decide) (by decide)) hZ (own_w hw 78 rfl) (own_w hw 28 rfl) (by decide) (by decide)) q19a q19b q19c (g := (mkF m 131 (own_P p1 p2 p3 p4 q5 q6 (.val (.int (p1 &&& (3 : Int32)))) (.val (.ref sI)) (.val (.ref s0)) (.val (.ref s1)) (.val (.ref s2)) (.val (.ref s3)) (.val (.ref b12)) .unset .unset) [(.ref b17), (.ref b12)])) rfl (by rw [hml]; rfl) (Steps.refl _) (argsL := [(.ref b17)]) (rest := []) (lenOf pd_0_7 rfl) rfl (Nat.le_of_eq rfl) (hb hby at_131) (fun _ _ => ⟨rfl, rfl, (by decide : 30 + 0 ≤ _), (by decide : 302 + 0 ≤ _)⟩)
  dsimp only [Pt.U, Pt.locs, Pt.cells, Pt.slots] at X19 l19 y19 z19 st19 hQ19
  subst l19 y19 z19
  obtain ⟨rfl, N19q, Kg19, Eh_b12, Feh_b12, Fsh_b12, Fmh_b12, VQ1⟩ := hQ19
  have N19 := Fr.app N18 N19q
  have Kc19 : Keep h0 T19.heap [] := Kc18.trans Kg19 (allS (Or.inr sz_b12) (allS (Or.inr szQ) all0))
  obtain ⟨T20, h20, X20, e20, E20, A20, D20, -, st20⟩ := newO X19 hx hZ hown (own_w hw 292 rfl) (own_w hw 293 rfl) (own_w hw 294 rfl) rfl (g := (mkF m 145 (own_P p1 p2 p3 p4 q5 q6 (.val (.int (p1 &&& (3 : Int32)))) (.val (.ref sI)) (.val (.ref s0)) (.val (.ref s1)) (.val (.ref s2)) (.val (.ref s3)) (.val (.ref b12)) .unset .unset) [(.ref b12)])) rfl (hb hby at_145) (by decide) (by decide)
  obtain ⟨b20, g20⟩ : ∃ z, z = T19.heap.size := ⟨_, rfl⟩
  rw [← g20] at A20 D20 st20
  have F_source_b20 : Fld Z h20 b20 "com/example/arcrover/arcrover/Transition" "source" "Ljava/lang/String;" .null := D20 (Or.inr (own_w hw 305 rfl)) (ty := (.object "java/lang/String")) (by decide)
  have F_stimulus_b20 : Fld Z h20 b20 "com/example/arcrover/arcrover/Transition" "stimulus" "Ljava/lang/String;" .null := D20 (Or.inr (own_w hw 307 rfl)) (ty := (.object "java/lang/String")) (by decide)
  have F_reaction_b20 : Fld Z h20 b20 "com/example/arcrover/arcrover/Transition" "reaction" "Ljava/lang/String;" .null := D20 (Or.inr (own_w hw 309 rfl)) (ty := (.object "java/lang/String")) (by decide)
  have F_target_b20 : Fld Z h20 b20 "com/example/arcrover/arcrover/Transition" "target" "Ljava/lang/String;" .null := D20 (Or.inr (own_w hw 311 rfl)) (ty := (.object "java/lang/String")) (by decide)
  have E_b20 := A20
  have g_b20 : n0 ≤ b20 := Nat.le_trans (Nat.le_trans Z0 Kg19.1) (Nat.le_of_eq g20.symm)
  have sz_b20 : h0.size ≤ b20 := (Nat.le_trans Kc19.1 (Nat.le_of_eq g20.symm))
  have K20 : Keep h0 h20 [] := Kc19.ext E20
  have Z0 : n0 ≤ _ := (Nat.le_trans (Nat.le_trans Z0 Kg19.1) E20.1)
  obtain ⟨_, _, ⟨T21, L21, k21, n21⟩, -, X21, hSn21, hGr21, ⟨Lc21, hQ21, l21, y21, z21⟩, st21⟩ := X20.specialBackS hx (y := own_y19) rfl hown (mvT hZ (own_w hw 295 rfl)) (mvT hZ (own_w hw 296 rfl)) (mvT hZ (own_w hw 297 rfl)) (by decide) (backOfS (W := 2) (rm_tinit l Z a0 hw [] b20 s2 s3 s0 s1 _ _ _ _ h20 n0 Z0 E_b20 F_source_b20 g_b20 F_stimulus_b20 F_reaction_b20 F_target_b20) hZ (own_w hw 297 rfl) (own_w hw 294 rfl) (by decide) (by decide)) (g := (mkF m 157 (own_P p1 p2 p3 p4 q5 q6 (.val (.int (p1 &&& (3 : Int32)))) (.val (.ref sI)) (.val (.ref s0)) (.val (.ref s1)) (.val (.ref s2)) (.val (.ref s3)) (.val (.ref b12)) .unset .unset) [(.ref s1), (.ref s0), (.ref s3), (.ref s2), (.ref b20), (.ref b20), (.ref b12)])) rfl (by rw [hml]; rfl) (Steps.refl _) (a := b20) (argsL := [(.ref s2), (.ref s3), (.ref s0), (.ref s1)]) (rest := [(.ref b20), (.ref b12)]) (lenOf pd_0_29 rfl) rfl (Nat.le_of_eq rfl) (hb hby at_157) (fun _ _ => ⟨rfl, e20, (by decide : 31 + 8 ≤ _), (by decide : 306 + 128 ≤ _)⟩)
  dsimp only [Pt.U, Pt.locs, Pt.cells, Pt.slots] at X21 l21 y21 z21 st21 hQ21 hSn21 hGr21
  subst l21 y21 z21
  obtain ⟨rfl, N21q, K21, Ea21⟩ := hQ21
  have N21 := Fr.app N19 N21q
  replace X21 : Stand p l e _ (s.setVm T21.vm) m _ below meth c T21 _ _ _ := X21
  have hS := hS.trans hSn21 (Nat.le_trans (by rw [e20]; exact (Nat.le_trans (Nat.le_trans hk Kg19.1) E20.1)) hGr21)
  have hk : T21.heap.size ≤ T21.heap.size := Nat.le_refl _
  have hZ := State.Warmed39.trans (t := s.setVm _) hZ hSn21.1
  have hown : (s.setVm T21.vm).vm.findClass "com/example/arcrover/arcrover/ExplorationTransitionsPinLaw" = some m.cls := by rw [show (s.setVm T21.vm).vm = T21.vm from rfl, hSn21.1.alike.findClass]; exact hown
  have Kc21 : Keep h0 T21.heap [] := K20.trans K21 (allS (Or.inr sz_b20) all0)
  have f13 := ((Eh_b12.ext E20).keep K21)
  have f14 := ((Feh_b12.ext E20).keep K21 (ninS (Nat.ne_of_lt (Nat.lt_of_lt_of_le ((((((El_b12.ext E14).keep K15).keep Kg16).ext E17).keep K18).keep Kg19).lt (Nat.le_of_eq g20.symm))) (nin0)))
  have f15 := ((Fsh_b12.ext E20).keep K21 (ninS (Nat.ne_of_lt (Nat.lt_of_lt_of_le ((((((El_b12.ext E14).keep K15).keep Kg16).ext E17).keep K18).keep Kg19).lt (Nat.le_of_eq g20.symm))) (nin0)))
  have f16 := ((Fmh_b12.ext E20).keep K21 (ninS (Nat.ne_of_lt (Nat.lt_of_lt_of_le ((((((El_b12.ext E14).keep K15).keep Kg16).ext E17).keep K18).keep Kg19).lt (Nat.le_of_eq g20.symm))) (nin0)))
  have f17 := ((VQ1.ext E20).keep K21 (ninS (Nat.ne_of_lt (Nat.lt_of_lt_of_le VQ1.lt (Nat.le_of_eq g20.symm))) (nin0)))
  have Z0 : n0 ≤ _ := (Nat.le_trans Z0 K21.1)
  have f12 := ((Eh_b12.ext E20).keep K21)
  obtain ⟨cq22, kq22, q22a, q22b, q22c⟩ := isOf hZ rfl f12
  obtain ⟨_, _, ⟨T22, L22, k22, n22⟩, -, X22, ⟨Lc22, hQ22, l22, y22, z22⟩, st22⟩ := X21.interfaceBack hx (xi := own_y11) (y := own_y4) hown (mvT hZ (own_w hw 70 rfl)) (mvT hZ (own_w hw 71 rfl)) (mvT hZ (own_w hw 72 rfl)) (mvT hZ (own_w hw 73 rfl)) (mvT hZ (own_w hw 74 rfl)) (mvT hZ (own_w hw 75 rfl)) (mvT hZ (own_w hw 76 rfl)) (mvT hZ (own_w hw 77 rfl)) (by decide) (backOf (W := 0) (rm_addb l Z a0 hw [] b12 b20 bQ (((0 : Int32) + (1 : Int32)) + (1 : Int32)) (((0 : Int32) + (1 : Int32)) + (1 : Int32)) kQ _ T21.heap n0 Z0 f13 f14 f15 f16 f17 (by simp) OQ ggQ hneQ g_b12 (Ins.of_exa Ea21 (own_w hw 312 rfl)) (by decide) (by decide) (by decide)) hZ (own_w hw 78 rfl) (own_w hw 28 rfl) (by decide) (by decide)) q22a q22b q22c (g := (mkF m 160 (own_P p1 p2 p3 p4 q5 q6 (.val (.int (p1 &&& (3 : Int32)))) (.val (.ref sI)) (.val (.ref s0)) (.val (.ref s1)) (.val (.ref s2)) (.val (.ref s3)) (.val (.ref b12)) .unset .unset) [(.ref b20), (.ref b12)])) rfl (by rw [hml]; rfl) (Steps.refl _) (argsL := [(.ref b20)]) (rest := []) (lenOf pd_0_7 rfl) rfl (Nat.le_of_eq rfl) (hb hby at_160) (fun _ _ => ⟨rfl, rfl, (by decide : 39 + 0 ≤ _), (by decide : 434 + 0 ≤ _)⟩)
  dsimp only [Pt.U, Pt.locs, Pt.cells, Pt.slots] at X22 l22 y22 z22 st22 hQ22
  subst l22 y22 z22
  obtain ⟨rfl, N22q, Kg22, Ei_b12, Fei_b12, Fsi_b12, Fmi_b12, VQ2⟩ := hQ22
  have N22 := Fr.app N21 N22q
  have Kc22 : Keep h0 T22.heap [] := Kc21.trans Kg22 (allS (Or.inr sz_b12) (allS (Or.inr szQ) all0))
  obtain ⟨T23, h23, X23, e23, E23, A23, D23, -, st23⟩ := newO X22 hx hZ hown (own_w hw 26 rfl) (own_w hw 27 rfl) (own_w hw 28 rfl) rfl (g := (mkF m 166 (own_P p1 p2 p3 p4 q5 q6 (.val (.int (p1 &&& (3 : Int32)))) (.val (.ref sI)) (.val (.ref s0)) (.val (.ref s1)) (.val (.ref s2)) (.val (.ref s3)) (.val (.ref b12)) .unset .unset) [])) rfl (hb hby at_166) (by decide) (by decide)
  obtain ⟨b23, g23⟩ : ∃ z, z = T22.heap.size := ⟨_, rfl⟩
  rw [← g23] at A23 D23 st23
  have F_modCount_b23 : Fld Z h23 b23 "java/util/AbstractList" "modCount" "I" (.int (0 : Int32)) := D23 (Or.inl (own_w hw 46 rfl)) (ty := .int) (by decide)
  have F_elementData_b23 : Fld Z h23 b23 "java/util/ArrayList" "elementData" "[Ljava/lang/Object;" .null := D23 (Or.inl (own_w hw 49 rfl)) (ty := (.array (.object "java/lang/Object"))) (by decide)
  have F_size_b23 : Fld Z h23 b23 "java/util/ArrayList" "size" "I" (.int (0 : Int32)) := D23 (Or.inl (own_w hw 82 rfl)) (ty := .int) (by decide)
  have E_b23 := A23
  have g_b23 : n0 ≤ b23 := Nat.le_trans (Nat.le_trans Z0 Kg22.1) (Nat.le_of_eq g23.symm)
  have sz_b23 : h0.size ≤ b23 := (Nat.le_trans Kc22.1 (Nat.le_of_eq g23.symm))
  have K23 : Keep h0 h23 [] := Kc22.ext E23
  have Ol := ((((((((Ol.keep Kg16 (allS g_b12 all0)).ext E17).keep K18 (allS g_b17 all0)).keep Kg19 (allS g_b12 (allS ggQ all0))).ext E20).keep K21 (allS g_b20 all0)).keep Kg22 (allS g_b12 (allS ggQ all0))).ext E23)
  have Z0 : n0 ≤ _ := (Nat.le_trans (Nat.le_trans Z0 Kg22.1) E23.1)
  obtain ⟨_, _, ⟨T24, L24, k24, n24⟩, -, X24, ⟨Lc24, hQ24, l24, y24, z24⟩, st24⟩ := X23.specialBack hx (y := own_y3) rfl hown (mvT hZ (own_w hw 29 rfl)) (mvT hZ (own_w hw 30 rfl)) (mvT hZ (own_w hw 31 rfl)) (by decide) (backOf (W := 1) (rm_al l Z a0 hw [] b23 wD _ _ _ h23 n0 Z0 Ol S_DC E_b23 F_elementData_b23 F_size_b23 F_modCount_b23 g_b23) hZ (own_w hw 31 rfl) (own_w hw 28 rfl) (by decide) (by decide)) (g := (mkF m 170 (own_P p1 p2 p3 p4 q5 q6 (.val (.int (p1 &&& (3 : Int32)))) (.val (.ref sI)) (.val (.ref s0)) (.val (.ref s1)) (.val (.ref s2)) (.val (.ref s3)) (.val (.ref b12)) .unset .unset) [(.ref b23), (.ref b23)])) rfl (by rw [hml]; rfl) (Steps.refl _) (a := b23) (argsL := []) (rest := [(.ref b23)]) (lenOf pd_0_4 rfl) rfl (Nat.le_of_eq rfl) (hb hby at_170) (fun _ _ => ⟨rfl, e23, (by decide : 40 + 0 ≤ _), (by decide : 437 + 0 ≤ _)⟩)
  dsimp only [Pt.U, Pt.locs, Pt.cells, Pt.slots] at X24 l24 y24 z24 st24 hQ24
  subst l24 y24 z24
  obtain ⟨rfl, N24q, K24, Ew_b23, Few_b23, Fsw_b23, Fmw_b23⟩ := hQ24
  have N24 := Fr.app N22 N24q
  have Kc24 : Keep h0 T24.heap [] := K23.trans K24 (allS (Or.inr sz_b23) all0)
  have Ol := (Ol.keep K24 (allS g_b23 all0))
  have Z0 : n0 ≤ _ := (Nat.le_trans Z0 K24.1)
  obtain ⟨_, _, ⟨T25, L25, k25, n25⟩, -, X25, ⟨Lc25, hQ25, l25, y25, z25⟩, st25⟩ := Jvm.LawKit.callS X24 hx (y := own_y1) hown (mvT hZ (own_w hw 50 rfl)) (mvT hZ (own_w hw 51 rfl)) (mvT hZ (own_w hw 52 rfl)) (mvT hZ (own_w hw 53 rfl)) (by decide) (backOf (W := 1) (HL T24.heap Z0 Ol) hZ (own_w hw 53 rfl) (own_w hw 52 rfl) (by decide) (by decide)) (g := (mkF m 179 (own_P p1 p2 p3 p4 q5 q6 (.val (.int (p1 &&& (3 : Int32)))) (.val (.ref sI)) (.val (.ref s0)) (.val (.ref s1)) (.val (.ref s2)) (.val (.ref s3)) (.val (.ref b12)) (.val (.ref b23)) .unset) [(.long q5), (.ref b23)])) rfl (by rw [hml]; rfl) (argsL := [(.long q5)]) (rest := [(.ref b23)]) (lenOf pd_0_5 rfl) rfl (Nat.le_of_eq rfl) (hb hby at_179) (fun _ _ => ⟨rfl, rfl, (by decide : 40 + 1 ≤ _), (by decide : 437 + 1 ≤ _)⟩)
  dsimp only [Pt.U, Pt.locs, Pt.cells, Pt.slots] at X25 l25 y25 z25 st25 hQ25
  subst l25 y25 z25
  obtain ⟨bV, rfl, N25q, ExV, EaV⟩ := hQ25
  have N25 := Fr.app N24 N25q
  have Kc25 : Keep h0 T25.heap [] := Kc24.ext ExV
  have f19 := (Ew_b23.ext ExV)
  have f20 := (Few_b23.ext ExV)
  have f21 := (Fsw_b23.ext ExV)
  have f22 := (Fmw_b23.ext ExV)
  have Ol := (Ol.ext ExV)
  have Z0 : n0 ≤ _ := (Nat.le_trans Z0 ExV.1)
  have f18 := (Ew_b23.ext ExV)
  obtain ⟨cq26, kq26, q26a, q26b, q26c⟩ := isOf hZ rfl f18
  obtain ⟨_, _, ⟨T26, L26, k26, n26⟩, -, X26, ⟨Lc26, hQ26, l26, y26, z26⟩, st26⟩ := X25.interfaceBack hx (xi := own_y11) (y := own_y4) hown (mvT hZ (own_w hw 70 rfl)) (mvT hZ (own_w hw 71 rfl)) (mvT hZ (own_w hw 72 rfl)) (mvT hZ (own_w hw 73 rfl)) (mvT hZ (own_w hw 74 rfl)) (mvT hZ (own_w hw 75 rfl)) (mvT hZ (own_w hw 76 rfl)) (mvT hZ (own_w hw 77 rfl)) (by decide) (backOf (W := 0) (rm_adda l Z a0 hw [] b23 bV wD (0 : Int32) (0 : Int32) cD T25.heap n0 Z0 Ol S_DC f19 f20 f21 f22 (A_D.ext (Ol).2) hszD g_b23 (by decide) (Ins.of_exa EaV (own_w hw 104 rfl)) ((Ol).ne A_D.lt g_b23) rfl (by decide) (by decide)) hZ (own_w hw 78 rfl) (own_w hw 28 rfl) (by decide) (by decide)) q26a q26b q26c (g := (mkF m 182 (own_P p1 p2 p3 p4 q5 q6 (.val (.int (p1 &&& (3 : Int32)))) (.val (.ref sI)) (.val (.ref s0)) (.val (.ref s1)) (.val (.ref s2)) (.val (.ref s3)) (.val (.ref b12)) (.val (.ref b23)) .unset) [(.ref bV), (.ref b23)])) rfl (by rw [hml]; rfl) (Steps.refl _) (argsL := [(.ref bV)]) (rest := []) (lenOf pd_0_7 rfl) rfl (Nat.le_of_eq rfl) (hb hby at_182) (fun _ _ => ⟨rfl, rfl, (by decide : 41 + 1 ≤ _), (by decide : 438 + 10 ≤ _)⟩)
  dsimp only [Pt.U, Pt.locs, Pt.cells, Pt.slots] at X26 l26 y26 z26 st26 hQ26
  subst l26 y26 z26
  obtain ⟨bP, kP, rfl, N26q, Kg26, Ey_b23, Fey_b23, Fsy_b23, Fmy_b23, VP, OP, ggP, szgP, EaP⟩ := hQ26
  have N26 := Fr.app N25 N26q
  have Kc26 : Keep h0 T26.heap [] := Kc25.trans Kg26 (allS (Or.inr sz_b23) all0)
  have hneP : b23 ≠ bP := by obtain ⟨c9, Ac, -⟩ := own_arr VP; exact ne_arr Ey_b23 (own_w hw 27 rfl) Ac
  have szP : h0.size ≤ bP := Nat.le_trans (Kc25).1 szgP
  obtain ⟨T27, h27, X27, e27, E27, A27, D27, -, st27⟩ := newO X26 hx hZ hown (own_w hw 105 rfl) (own_w hw 106 rfl) (own_w hw 107 rfl) rfl (g := (mkF m 188 (own_P p1 p2 p3 p4 q5 q6 (.val (.int (p1 &&& (3 : Int32)))) (.val (.ref sI)) (.val (.ref s0)) (.val (.ref s1)) (.val (.ref s2)) (.val (.ref s3)) (.val (.ref b12)) (.val (.ref b23)) .unset) [])) rfl (hb hby at_188) (by decide) (by decide)
  obtain ⟨b27, g27⟩ : ∃ z, z = T26.heap.size := ⟨_, rfl⟩
  rw [← g27] at A27 D27 st27
  have F_graph_b27 : Fld Z h27 b27 "com/example/arcrover/arcrover/Exploration" "graph" "Lcom/example/arcrover/arcrover/StateMachine;" .null := D27 (Or.inr (own_w hw 253 rfl)) (ty := (.object "com/example/arcrover/arcrover/StateMachine")) (by decide)
  have F_states_b27 : Fld Z h27 b27 "com/example/arcrover/arcrover/Exploration" "states" "I" (.int (0 : Int32)) := D27 (Or.inr (own_w hw 255 rfl)) (ty := .int) (by decide)
  have F_untried_b27 : Fld Z h27 b27 "com/example/arcrover/arcrover/Exploration" "untried" "I" (.int (0 : Int32)) := D27 (Or.inr (own_w hw 257 rfl)) (ty := .int) (by decide)
  have F_stimuli_b27 : Fld Z h27 b27 "com/example/arcrover/arcrover/Exploration" "stimuli" "J" (.long (0 : Int64)) := D27 (Or.inr (own_w hw 259 rfl)) (ty := .long) (by decide)
  have F_restarts_b27 : Fld Z h27 b27 "com/example/arcrover/arcrover/Exploration" "restarts" "J" (.long (0 : Int64)) := D27 (Or.inr (own_w hw 261 rfl)) (ty := .long) (by decide)
  have F_walkerStimuli_b27 : Fld Z h27 b27 "com/example/arcrover/arcrover/Exploration" "walkerStimuli" "Ljava/util/List;" .null := D27 (Or.inr (own_w hw 263 rfl)) (ty := (.object "java/util/List")) (by decide)
  have F_verdict_b27 : Fld Z h27 b27 "com/example/arcrover/arcrover/Exploration" "verdict" "Lcom/example/arcrover/arcrover/Verdict;" .null := D27 (Or.inr (own_w hw 265 rfl)) (ty := (.object "com/example/arcrover/arcrover/Verdict")) (by decide)
  have F_witness_b27 : Fld Z h27 b27 "com/example/arcrover/arcrover/Exploration" "witness" "Lcom/example/arcrover/arcrover/Witness;" .null := D27 (Or.inr (own_w hw 267 rfl)) (ty := (.object "com/example/arcrover/arcrover/Witness")) (by decide)
  have F_rejections_b27 : Fld Z h27 b27 "com/example/arcrover/arcrover/Exploration" "rejections" "Ljava/util/List;" .null := D27 (Or.inr (own_w hw 269 rfl)) (ty := (.object "java/util/List")) (by decide)
  have E_b27 := A27
  have g_b27 : n0 ≤ b27 := Nat.le_trans (Nat.le_trans Z0 Kg26.1) (Nat.le_of_eq g27.symm)
  have sz_b27 : h0.size ≤ b27 := (Nat.le_trans Kc26.1 (Nat.le_of_eq g27.symm))
  have K27 : Keep h0 h27 [] := Kc26.ext E27
  obtain ⟨T28, h28, X28, e28, E28, A28, D28, -, st28⟩ := newO X27 hx hZ hown (own_w hw 108 rfl) (own_w hw 109 rfl) (own_w hw 110 rfl) e27 (g := (mkF m 192 (own_P p1 p2 p3 p4 q5 q6 (.val (.int (p1 &&& (3 : Int32)))) (.val (.ref sI)) (.val (.ref s0)) (.val (.ref s1)) (.val (.ref s2)) (.val (.ref s3)) (.val (.ref b12)) (.val (.ref b23)) .unset) [(.ref b27), (.ref b27)])) rfl (hb hby at_192) (by decide) (by decide)
  obtain ⟨b28, g28⟩ : ∃ z, z = h27.size := ⟨_, rfl⟩
  rw [← g28] at A28 D28 st28
  have F_initial_b28 : Fld Z h28 b28 "com/example/arcrover/arcrover/StateMachine" "initial" "Ljava/lang/String;" .null := D28 (Or.inr (own_w hw 180 rfl)) (ty := (.object "java/lang/String")) (by decide)
  have F_transitions_b28 : Fld Z h28 b28 "com/example/arcrover/arcrover/StateMachine" "transitions" "Ljava/util/List;" .null := D28 (Or.inr (own_w hw 182 rfl)) (ty := (.object "java/util/List")) (by decide)
  have F_probabilities_b28 : Fld Z h28 b28 "com/example/arcrover/arcrover/StateMachine" "probabilities" "Ljava/util/Map;" .null := D28 (Or.inr (own_w hw 184 rfl)) (ty := (.object "java/util/Map")) (by decide)
  have E_b28 := A28
  have g_b28 : n0 ≤ b28 := Nat.le_trans (Nat.le_trans (Nat.le_trans Z0 Kg26.1) E27.1) (Nat.le_of_eq g28.symm)
  have sz_b28 : h0.size ≤ b28 := (Nat.le_trans K27.1 (Nat.le_of_eq g28.symm))
  have K28 : Keep h0 h28 [] := K27.ext E28
  have f23 := ((((((Ei_b12.ext E23).keep K24).ext ExV).keep Kg26).ext E27).ext E28)
  have f24 := ((((((Fei_b12.ext E23).keep K24 (ninS (Nat.ne_of_lt (Nat.lt_of_lt_of_le (((((((((El_b12.ext E14).keep K15).keep Kg16).ext E17).keep K18).keep Kg19).ext E20).keep K21).keep Kg22).lt (Nat.le_of_eq g23.symm))) (nin0))).ext ExV).keep Kg26 (ninS (Nat.ne_of_lt (Nat.lt_of_lt_of_le (((((((((El_b12.ext E14).keep K15).keep Kg16).ext E17).keep K18).keep Kg19).ext E20).keep K21).keep Kg22).lt (Nat.le_of_eq g23.symm))) (nin0))).ext E27).ext E28)
  have f25 := ((((((Fsi_b12.ext E23).keep K24 (ninS (Nat.ne_of_lt (Nat.lt_of_lt_of_le (((((((((El_b12.ext E14).keep K15).keep Kg16).ext E17).keep K18).keep Kg19).ext E20).keep K21).keep Kg22).lt (Nat.le_of_eq g23.symm))) (nin0))).ext ExV).keep Kg26 (ninS (Nat.ne_of_lt (Nat.lt_of_lt_of_le (((((((((El_b12.ext E14).keep K15).keep Kg16).ext E17).keep K18).keep Kg19).ext E20).keep K21).keep Kg22).lt (Nat.le_of_eq g23.symm))) (nin0))).ext E27).ext E28)
  have f26 := ((((((VQ2.ext E23).keep K24 (ninS (Nat.ne_of_lt (Nat.lt_of_lt_of_le VQ2.lt (Nat.le_of_eq g23.symm))) (nin0))).ext ExV).keep Kg26 (ninS (Nat.ne_of_lt (Nat.lt_of_lt_of_le VQ2.lt (Nat.le_of_eq g23.symm))) (nin0))).ext E27).ext E28)
  have f27 := ((((((((((((EaQ.ext E17).keep K18).keep Kg19).ext E20).keep K21).keep Kg22).ext E23).keep K24).ext ExV).keep Kg26).ext E27).ext E28)
  have f28 := (((((((((((((Ea15.keep Kg16).ext E17).keep K18).keep Kg19).ext E20).keep K21).keep Kg22).ext E23).keep K24).ext ExV).keep Kg26).ext E27).ext E28)
  have f29 := ((((((((((Ea18.keep Kg19).ext E20).keep K21).keep Kg22).ext E23).keep K24).ext ExV).keep Kg26).ext E27).ext E28)
  have f30 := (((((((Ea21.keep Kg22).ext E23).keep K24).ext ExV).keep Kg26).ext E27).ext E28)
  have Ol := (((Ol.keep Kg26 (allS g_b23 all0)).ext E27).ext E28)
  have Z0 : n0 ≤ _ := (Nat.le_trans (Nat.le_trans (Nat.le_trans Z0 Kg26.1) E27.1) E28.1)
  obtain ⟨_, _, ⟨T29, L29, k29, n29⟩, -, X29, hSn29, hGr29, ⟨Lc29, hQ29, l29, y29, z29⟩, st29⟩ := X28.specialBackS hx (y := own_y8) rfl hown (mvT hZ (own_w hw 111 rfl)) (mvT hZ (own_w hw 112 rfl)) (mvT hZ (own_w hw 113 rfl)) (by decide) (backOfS (W := 3) (rm_sm2_3 l Z a0 hw [] b28 sI b12 wM kQ _ b14 b17 b20 bQ aM _ _ _ h28 n0 Z0 Ol S_EMPTY_MAP f23 f24 (by have q := f25; rw [show ((((0 : Int32) + (1 : Int32)) + (1 : Int32)) + (1 : Int32)) = (3 : Int32) from by decide] at q; exact q) f26 f27 Mr (by rfl) (by rfl) (by rfl) (Ins.of_exa f28 (own_w hw 312 rfl)) (Ins.of_exa f29 (own_w hw 312 rfl)) (Ins.of_exa f30 (own_w hw 312 rfl)) (E_M.ext (Ol).2) (F_M.ext (Ol).2) E_b28 F_initial_b28 F_transitions_b28 F_probabilities_b28 g_b28) hZ (own_w hw 113 rfl) (own_w hw 110 rfl) (by decide) (by decide)) (g := (mkF m 200 (own_P p1 p2 p3 p4 q5 q6 (.val (.int (p1 &&& (3 : Int32)))) (.val (.ref sI)) (.val (.ref s0)) (.val (.ref s1)) (.val (.ref s2)) (.val (.ref s3)) (.val (.ref b12)) (.val (.ref b23)) .unset) [(.ref b12), (.ref sI), (.ref b28), (.ref b28), (.ref b27), (.ref b27)])) rfl (by rw [hml]; rfl) (Steps.refl _) (a := b28) (argsL := [(.ref sI), (.ref b12)]) (rest := [(.ref b28), (.ref b27), (.ref b27)]) (lenOf pd_0_12 rfl) rfl (Nat.le_of_eq rfl) (hb hby at_200) (fun _ _ => ⟨rfl, e28, (by decide : 44 + 5 ≤ _), (by decide : 460 + 40 ≤ _)⟩)
  dsimp only [Pt.U, Pt.locs, Pt.cells, Pt.slots] at X29 l29 y29 z29 st29 hQ29 hSn29 hGr29
  subst l29 y29 z29
  obtain ⟨bL, rfl, N29q, Ks, Es, Ft, Ls⟩ := hQ29
  have N29 := Fr.app N26 N29q
  replace X29 : Stand p l e _ (s.setVm T29.vm) m _ below meth c T29 _ _ _ := X29
  have hS := hS.trans hSn29 (Nat.le_trans (by rw [e28]; exact (Nat.le_trans (Nat.le_trans (Nat.le_trans (Nat.le_trans (Nat.le_trans (Nat.le_trans (Nat.le_trans hk Kg22.1) E23.1) K24.1) ExV.1) Kg26.1) E27.1) E28.1)) hGr29)
  have hk : T29.heap.size ≤ T29.heap.size := Nat.le_refl _
  have hZ := State.Warmed39.trans (t := s.setVm _) hZ hSn29.1
  have hown : (s.setVm T29.vm).vm.findClass "com/example/arcrover/arcrover/ExplorationTransitionsPinLaw" = some m.cls := by rw [show (s.setVm T29.vm).vm = T29.vm from rfl, hSn29.1.alike.findClass]; exact hown
  have Kc29 : Keep h0 T29.heap [] := K28.trans Ks (allS (Or.inr sz_b28) all0)
  obtain ⟨EbL, eL, cE, FeL, AeL, SeL⟩ := Ls
  have f31 := ((E_b27.ext E28).keep Ks)
  have neXL : b27 ≠ bL := ne_exa f31 EbL (by decide)
  have neXe : b27 ≠ eL := ne_arr f31 (own_w hw 106 rfl) AeL
  obtain ⟨T30, h30, X30, e30, E30, A30, D30, -, st30⟩ := newO X29 hx hZ hown (own_w hw 26 rfl) (own_w hw 27 rfl) (own_w hw 28 rfl) rfl (g := (mkF m 213 (own_P p1 p2 p3 p4 q5 q6 (.val (.int (p1 &&& (3 : Int32)))) (.val (.ref sI)) (.val (.ref s0)) (.val (.ref s1)) (.val (.ref s2)) (.val (.ref s3)) (.val (.ref b12)) (.val (.ref b23)) .unset) [.null, .null, (.ref b23), (.long q6), (.long q5), (.int p4), (.int p3), (.ref b28), (.ref b27), (.ref b27)])) rfl (hb hby at_213) (by decide) (by decide)
  obtain ⟨b30, g30⟩ : ∃ z, z = T29.heap.size := ⟨_, rfl⟩
  rw [← g30] at A30 D30 st30
  have F_modCount_b30 : Fld Z h30 b30 "java/util/AbstractList" "modCount" "I" (.int (0 : Int32)) := D30 (Or.inl (own_w hw 46 rfl)) (ty := .int) (by decide)
  have F_elementData_b30 : Fld Z h30 b30 "java/util/ArrayList" "elementData" "[Ljava/lang/Object;" .null := D30 (Or.inl (own_w hw 49 rfl)) (ty := (.array (.object "java/lang/Object"))) (by decide)
  have F_size_b30 : Fld Z h30 b30 "java/util/ArrayList" "size" "I" (.int (0 : Int32)) := D30 (Or.inl (own_w hw 82 rfl)) (ty := .int) (by decide)
  have E_b30 := A30
  have g_b30 : n0 ≤ b30 := Nat.le_trans (Nat.le_trans Z0 Ks.1) (Nat.le_of_eq g30.symm)
  have sz_b30 : h0.size ≤ b30 := (Nat.le_trans Kc29.1 (Nat.le_of_eq g30.symm))
  have K30 : Keep h0 h30 [] := Kc29.ext E30
  have Ol := ((Ol.keep Ks (allS g_b28 all0)).ext E30)
  have Z0 : n0 ≤ _ := (Nat.le_trans (Nat.le_trans Z0 Ks.1) E30.1)
  obtain ⟨_, _, ⟨T31, L31, k31, n31⟩, -, X31, ⟨Lc31, hQ31, l31, y31, z31⟩, st31⟩ := X30.specialBack hx (y := own_y3) rfl hown (mvT hZ (own_w hw 29 rfl)) (mvT hZ (own_w hw 30 rfl)) (mvT hZ (own_w hw 31 rfl)) (by decide) (backOf (W := 13) (rm_al l Z a0 hw [] b30 wD _ _ _ h30 n0 Z0 Ol S_DC E_b30 F_elementData_b30 F_size_b30 F_modCount_b30 g_b30) hZ (own_w hw 31 rfl) (own_w hw 28 rfl) (by decide) (by decide)) (g := (mkF m 217 (own_P p1 p2 p3 p4 q5 q6 (.val (.int (p1 &&& (3 : Int32)))) (.val (.ref sI)) (.val (.ref s0)) (.val (.ref s1)) (.val (.ref s2)) (.val (.ref s3)) (.val (.ref b12)) (.val (.ref b23)) .unset) [(.ref b30), (.ref b30), .null, .null, (.ref b23), (.long q6), (.long q5), (.int p4), (.int p3), (.ref b28), (.ref b27), (.ref b27)])) rfl (by rw [hml]; rfl) (Steps.refl _) (a := b30) (argsL := []) (rest := [(.ref b30), .null, .null, (.ref b23), (.long q6), (.long q5), (.int p4), (.int p3), (.ref b28), (.ref b27), (.ref b27)]) (lenOf pd_0_4 rfl) rfl (Nat.le_of_eq rfl) (hb hby at_217) (fun _ _ => ⟨rfl, e30, (by decide : 50 + 0 ≤ _), (by decide : 503 + 0 ≤ _)⟩)
  dsimp only [Pt.U, Pt.locs, Pt.cells, Pt.slots] at X31 l31 y31 z31 st31 hQ31
  subst l31 y31 z31
  obtain ⟨rfl, N31q, K31, Er_b30, Fer_b30, Fsr_b30, Fmr_b30⟩ := hQ31
  have N31 := Fr.app N29 N31q
  have Kc31 : Keep h0 T31.heap [] := K30.trans K31 (allS (Or.inr sz_b30) all0)
  have f32 := (((((Ey_b23.ext E27).ext E28).keep Ks).ext E30).keep K31)
  have f33 := (((((Fey_b23.ext E27).ext E28).keep Ks (ninS (Nat.ne_of_lt (Nat.lt_of_lt_of_le (((Ew_b23.ext ExV).keep Kg26).ext E27).lt (Nat.le_of_eq g28.symm))) (nin0))).ext E30).keep K31 (ninS (Nat.ne_of_lt (Nat.lt_of_lt_of_le (((((Ew_b23.ext ExV).keep Kg26).ext E27).ext E28).keep Ks).lt (Nat.le_of_eq g30.symm))) (nin0)))
  have f34 := (((((Fsy_b23.ext E27).ext E28).keep Ks (ninS (Nat.ne_of_lt (Nat.lt_of_lt_of_le (((Ew_b23.ext ExV).keep Kg26).ext E27).lt (Nat.le_of_eq g28.symm))) (nin0))).ext E30).keep K31 (ninS (Nat.ne_of_lt (Nat.lt_of_lt_of_le (((((Ew_b23.ext ExV).keep Kg26).ext E27).ext E28).keep Ks).lt (Nat.le_of_eq g30.symm))) (nin0)))
  have f35 := (((((VP.ext E27).ext E28).keep Ks (ninS (Nat.ne_of_lt (Nat.lt_of_lt_of_le (VP.ext E27).lt (Nat.le_of_eq g28.symm))) (nin0))).ext E30).keep K31 (ninS (Nat.ne_of_lt (Nat.lt_of_lt_of_le (((VP.ext E27).ext E28).keep Ks (ninS (Nat.ne_of_lt (Nat.lt_of_lt_of_le (VP.ext E27).lt (Nat.le_of_eq g28.symm))) (nin0))).lt (Nat.le_of_eq g30.symm))) (nin0)))
  have f36 := (((((EaP.ext E27).ext E28).keep Ks).ext E30).keep K31)
  have f37 := ((((((EaV.keep Kg26).ext E27).ext E28).keep Ks).ext E30).keep K31)
  have f38 := ((f31.ext E30).keep K31)
  have f39 := ((((F_graph_b27.ext E28).keep Ks (ninS (Nat.ne_of_lt (Nat.lt_of_lt_of_le E_b27.lt (Nat.le_of_eq g28.symm))) (nin0))).ext E30).keep K31 (ninS (Nat.ne_of_lt (Nat.lt_of_lt_of_le ((E_b27.ext E28).keep Ks).lt (Nat.le_of_eq g30.symm))) (nin0)))
  have f40 := ((((F_states_b27.ext E28).keep Ks (ninS (Nat.ne_of_lt (Nat.lt_of_lt_of_le E_b27.lt (Nat.le_of_eq g28.symm))) (nin0))).ext E30).keep K31 (ninS (Nat.ne_of_lt (Nat.lt_of_lt_of_le ((E_b27.ext E28).keep Ks).lt (Nat.le_of_eq g30.symm))) (nin0)))
  have f41 := ((((F_untried_b27.ext E28).keep Ks (ninS (Nat.ne_of_lt (Nat.lt_of_lt_of_le E_b27.lt (Nat.le_of_eq g28.symm))) (nin0))).ext E30).keep K31 (ninS (Nat.ne_of_lt (Nat.lt_of_lt_of_le ((E_b27.ext E28).keep Ks).lt (Nat.le_of_eq g30.symm))) (nin0)))
  have f42 := ((((F_stimuli_b27.ext E28).keep Ks (ninS (Nat.ne_of_lt (Nat.lt_of_lt_of_le E_b27.lt (Nat.le_of_eq g28.symm))) (nin0))).ext E30).keep K31 (ninS (Nat.ne_of_lt (Nat.lt_of_lt_of_le ((E_b27.ext E28).keep Ks).lt (Nat.le_of_eq g30.symm))) (nin0)))
  have f43 := ((((F_restarts_b27.ext E28).keep Ks (ninS (Nat.ne_of_lt (Nat.lt_of_lt_of_le E_b27.lt (Nat.le_of_eq g28.symm))) (nin0))).ext E30).keep K31 (ninS (Nat.ne_of_lt (Nat.lt_of_lt_of_le ((E_b27.ext E28).keep Ks).lt (Nat.le_of_eq g30.symm))) (nin0)))
  have f44 := ((((F_walkerStimuli_b27.ext E28).keep Ks (ninS (Nat.ne_of_lt (Nat.lt_of_lt_of_le E_b27.lt (Nat.le_of_eq g28.symm))) (nin0))).ext E30).keep K31 (ninS (Nat.ne_of_lt (Nat.lt_of_lt_of_le ((E_b27.ext E28).keep Ks).lt (Nat.le_of_eq g30.symm))) (nin0)))
  have f45 := ((((F_verdict_b27.ext E28).keep Ks (ninS (Nat.ne_of_lt (Nat.lt_of_lt_of_le E_b27.lt (Nat.le_of_eq g28.symm))) (nin0))).ext E30).keep K31 (ninS (Nat.ne_of_lt (Nat.lt_of_lt_of_le ((E_b27.ext E28).keep Ks).lt (Nat.le_of_eq g30.symm))) (nin0)))
  have f46 := ((((F_witness_b27.ext E28).keep Ks (ninS (Nat.ne_of_lt (Nat.lt_of_lt_of_le E_b27.lt (Nat.le_of_eq g28.symm))) (nin0))).ext E30).keep K31 (ninS (Nat.ne_of_lt (Nat.lt_of_lt_of_le ((E_b27.ext E28).keep Ks).lt (Nat.le_of_eq g30.symm))) (nin0)))
  have f47 := ((((F_rejections_b27.ext E28).keep Ks (ninS (Nat.ne_of_lt (Nat.lt_of_lt_of_le E_b27.lt (Nat.le_of_eq g28.symm))) (nin0))).ext E30).keep K31 (ninS (Nat.ne_of_lt (Nat.lt_of_lt_of_le ((E_b27.ext E28).keep Ks).lt (Nat.le_of_eq g30.symm))) (nin0)))
  have Ol := (Ol.keep K31 (allS g_b30 all0))
  have Z0 : n0 ≤ _ := (Nat.le_trans Z0 K31.1)
  obtain ⟨_, _, ⟨T32, L32, k32, n32⟩, -, X32, ⟨Lc32, hQ32, l32, y32, z32⟩, st32⟩ := X31.specialBack hx (y := own_y26) rfl hown (mvT hZ (own_w hw 185 rfl)) (mvT hZ (own_w hw 186 rfl)) (mvT hZ (own_w hw 187 rfl)) (by decide) (backOf (W := 1) (rm_xinit l Z a0 hw [] b27 b28 p3 p4 q5 q6 b23 b30 kP _ bV bP aM wO wL _ _ _ _ _ _ _ _ _ T31.heap n0 Z0 Ol S_EMPTY f32 f33 (by have q := f34; rw [show ((0 : Int32) + (1 : Int32)) = (1 : Int32) from by decide] at q; exact q) f35 f36 Mr (by rfl) (Ins.of_exa f37 (own_w hw 104 rfl)) S_EMPTY_LIST Er_b30 Fsr_b30 f38 f39 g_b27 f40 f41 f42 f43 f44 f45 f46 f47) hZ (own_w hw 187 rfl) (own_w hw 107 rfl) (by decide) (by decide)) (g := (mkF m 220 (own_P p1 p2 p3 p4 q5 q6 (.val (.int (p1 &&& (3 : Int32)))) (.val (.ref sI)) (.val (.ref s0)) (.val (.ref s1)) (.val (.ref s2)) (.val (.ref s3)) (.val (.ref b12)) (.val (.ref b23)) .unset) [(.ref b30), .null, .null, (.ref b23), (.long q6), (.long q5), (.int p4), (.int p3), (.ref b28), (.ref b27), (.ref b27)])) rfl (by rw [hml]; rfl) (Steps.refl _) (a := b27) (argsL := [(.ref b28), (.int p3), (.int p4), (.long q5), (.long q6), (.ref b23), .null, .null, (.ref b30)]) (rest := [(.ref b27)]) (lenOf pd_0_20 rfl) rfl (Nat.le_of_eq rfl) (hb hby at_220) (fun _ _ => ⟨rfl, rfl, (by decide : 50 + 2 ≤ _), (by decide : 503 + 3 ≤ _)⟩)
  dsimp only [Pt.U, Pt.locs, Pt.cells, Pt.slots] at X32 l32 y32 z32 st32 hQ32
  subst l32 y32 z32
  obtain ⟨rfl, N32q, Kx, Exx, Fgx⟩ := hQ32
  have N32 := Fr.app N31 N32q
  have Kc32 : Keep h0 T32.heap [] := Kc31.trans Kx (allS (Or.inr sz_b27) all0)
  have f48 := (((Es.ext E30).keep K31).keep Kx)
  have f49 := (((Ft.ext E30).keep K31 (ninS (Nat.ne_of_lt (Nat.lt_of_lt_of_le Es.lt (Nat.le_of_eq g30.symm))) (nin0))).keep Kx (ninS (Ne.symm (Nat.ne_of_lt (Nat.lt_of_lt_of_le E_b27.lt (Nat.le_of_eq g28.symm)))) (nin0)))
  have f50 := (((EbL.ext E30).keep K31).keep Kx)
  have f51 := (((FeL.ext E30).keep K31 (ninS (Nat.ne_of_lt (Nat.lt_of_lt_of_le EbL.lt (Nat.le_of_eq g30.symm))) (nin0))).keep Kx (ninS (Ne.symm (neXL)) (nin0)))
  have f52 := (((AeL.ext E30).keep K31 (ninS (Nat.ne_of_lt (Nat.lt_of_lt_of_le AeL.lt (Nat.le_of_eq g30.symm))) (nin0))).keep Kx (ninS (Ne.symm (neXe)) (nin0)))
  have Z0 : n0 ≤ _ := (Nat.le_trans Z0 Kx.1)
  obtain ⟨cq33, kq33, q33a, q33b, q33c⟩ := isOf hZ rfl Exx
  obtain ⟨_, _, ⟨T33, L33, k33, n33⟩, -, X33, ⟨Lc33, hQ33, l33, y33, z33⟩, st33⟩ := X32.virtualBack hx (y := own_y2) (z := own_y2) hown (mvT hZ (own_w hw 270 rfl)) (mvT hZ (own_w hw 271 rfl)) (notFace_of_selects (args := #[]) (mvT hZ (own_w hw 273 rfl))) (mvT hZ (own_w hw 273 rfl)) (mvT hZ (own_w hw 272 rfl)) (by decide) (backOf (W := 0) (rm_trn3 l Z a0 hw [] b27 b28 bL eL cE T32.heap n0 Z0 Fgx f48 f49 f50 f51 f52 SeL) hZ (own_w hw 274 rfl) (own_w hw 107 rfl) (by decide) (by decide)) q33a q33c (g := (mkF m 227 (own_P p1 p2 p3 p4 q5 q6 (.val (.int (p1 &&& (3 : Int32)))) (.val (.ref sI)) (.val (.ref s0)) (.val (.ref s1)) (.val (.ref s2)) (.val (.ref s3)) (.val (.ref b12)) (.val (.ref b23)) (.val (.ref b27))) [(.ref b27)])) rfl (by rw [hml]; rfl) (Steps.refl _) (argsL := []) (rest := []) (lenOf pd_0_28 rfl) rfl (Nat.le_of_eq rfl) (hb hby at_227) (fun _ _ => ⟨rfl, rfl, (by decide : 52 + 0 ≤ _), (by decide : 506 + 0 ≤ _)⟩)
  dsimp only [Pt.U, Pt.locs, Pt.cells, Pt.slots] at X33 l33 y33 z33 st33 hQ33
  subst l33 y33 z33
  obtain ⟨rfl, N33q, K33⟩ := hQ33
  have N33 := Fr.app N32 N33q
  have hkEnd := Nat.le_trans (Nat.le_trans (Nat.le_trans (Nat.le_trans hk E30.1) K31.1) Kx.1) (Nat.le_of_eq (congrArg Array.size K33).symm)
  obtain ⟨fs, hr, hrun, hended, hEW⟩ := X33.leaveW hS hkEnd (v := some (.int (1 : Int32))) (fun h => by rw [Bd.returns] at h; cases h)
  refine ⟨_, _, pre0 _ ?_, hrun, hended, _, _, rfl, ?_, hEW.1, hEW.2.1, hEW.2.2.1, hEW.2.2.2.mono (by decide) (by decide)⟩
  · show Steps _ _ _ (s₁.setTop (mkF m 0 (own_P p1 p2 p3 p4 q5 q6 .unset .unset .unset .unset .unset .unset .unset .unset .unset) [])) _
    refine XS.iloadN X0.here hx rfl (hb hby at_0) rfl ?_
    refine XS.iconst X0.here hx rfl (hb hby at_1) ?_
    refine XS.iand X0.here hx rfl (hb hby at_2) rfl ?_
    refine XS.istore X0.here hx rfl (hb hby at_3) rfl (l' := (own_P p1 p2 p3 p4 q5 q6 (.val (.int (p1 &&& (3 : Int32)))) .unset .unset .unset .unset .unset .unset .unset .unset)) rfl ?_
    show Steps _ _ _ (s₁.setTop (mkF m 5 (own_P p1 p2 p3 p4 q5 q6 (.val (.int (p1 &&& (3 : Int32)))) .unset .unset .unset .unset .unset .unset .unset .unset) [])) _
    refine XS.iloadN X0.here hx rfl (hb hby at_5) rfl ?_
    refine XS.iconst X0.here hx rfl (hb hby at_6) ?_
    refine XS.iushr X0.here hx rfl (hb hby at_7) rfl ?_
    refine XS.sipush X0.here hx rfl (hb hby at_8) ?_
    show Steps _ _ _ (s₁.setTop (mkF m 11 (own_P p1 p2 p3 p4 q5 q6 (.val (.int (p1 &&& (3 : Int32)))) .unset .unset .unset .unset .unset .unset .unset .unset) [(.int (255 : Int32)), (.int ((p1.toUInt32 >>> ((2 : Int32) &&& 31).toUInt32).toInt32))])) _
    refine XS.iand X0.here hx rfl (hb hby at_11) rfl ?_
    refine XS.i2c X0.here hx rfl (hb hby at_12) rfl ?_
    show Steps _ _ _ (s₁.setTop (mkF m 13 (own_P p1 p2 p3 p4 q5 q6 (.val (.int (p1 &&& (3 : Int32)))) .unset .unset .unset .unset .unset .unset .unset .unset) [(.int ((((p1.toUInt32 >>> ((2 : Int32) &&& 31).toUInt32).toInt32) &&& (255 : Int32)).toUInt32.toUInt16.toUInt32.toInt32))])) _
    refine st7 _ ?_
    show Steps _ _ _ (T7.setTop (mkF m 16 (own_P p1 p2 p3 p4 q5 q6 (.val (.int (p1 &&& (3 : Int32)))) .unset .unset .unset .unset .unset .unset .unset .unset) [(.ref sI)])) _
    refine XS.astore X7.here hx rfl (hb hby at_16) rfl rfl (l' := (own_P p1 p2 p3 p4 q5 q6 (.val (.int (p1 &&& (3 : Int32)))) (.val (.ref sI)) .unset .unset .unset .unset .unset .unset .unset)) rfl ?_
    refine XS.iloadN X7.here hx rfl (hb hby at_18) rfl ?_
    refine XS.sipush X7.here hx rfl (hb hby at_19) ?_
    refine XS.iand X7.here hx rfl (hb hby at_22) rfl ?_
    show Steps _ _ _ (T7.setTop (mkF m 23 (own_P p1 p2 p3 p4 q5 q6 (.val (.int (p1 &&& (3 : Int32)))) (.val (.ref sI)) .unset .unset .unset .unset .unset .unset .unset) [(.int (p2 &&& (255 : Int32)))])) _
    refine XS.i2c X7.here hx rfl (hb hby at_23) rfl ?_
    show Steps _ _ _ (T7.setTop (mkF m 24 (own_P p1 p2 p3 p4 q5 q6 (.val (.int (p1 &&& (3 : Int32)))) (.val (.ref sI)) .unset .unset .unset .unset .unset .unset .unset) [(.int ((p2 &&& (255 : Int32)).toUInt32.toUInt16.toUInt32.toInt32))])) _
    refine st8 _ ?_
    show Steps _ _ _ (T8.setTop (mkF m 27 (own_P p1 p2 p3 p4 q5 q6 (.val (.int (p1 &&& (3 : Int32)))) (.val (.ref sI)) .unset .unset .unset .unset .unset .unset .unset) [(.ref s0)])) _
    refine XS.astore X8.here hx rfl (hb hby at_27) rfl rfl (l' := (own_P p1 p2 p3 p4 q5 q6 (.val (.int (p1 &&& (3 : Int32)))) (.val (.ref sI)) (.val (.ref s0)) .unset .unset .unset .unset .unset .unset)) rfl ?_
    refine XS.iloadN X8.here hx rfl (hb hby at_29) rfl ?_
    refine XS.bipush X8.here hx rfl (hb hby at_30) ?_
    refine XS.iushr X8.here hx rfl (hb hby at_32) rfl ?_
    show Steps _ _ _ (T8.setTop (mkF m 33 (own_P p1 p2 p3 p4 q5 q6 (.val (.int (p1 &&& (3 : Int32)))) (.val (.ref sI)) (.val (.ref s0)) .unset .unset .unset .unset .unset .unset) [(.int ((p2.toUInt32 >>> ((8 : Int32) &&& 31).toUInt32).toInt32))])) _
    refine XS.sipush X8.here hx rfl (hb hby at_33) ?_
    refine XS.iand X8.here hx rfl (hb hby at_36) rfl ?_
    refine XS.i2c X8.here hx rfl (hb hby at_37) rfl ?_
    show Steps _ _ _ (T8.setTop (mkF m 38 (own_P p1 p2 p3 p4 q5 q6 (.val (.int (p1 &&& (3 : Int32)))) (.val (.ref sI)) (.val (.ref s0)) .unset .unset .unset .unset .unset .unset) [(.int ((((p2.toUInt32 >>> ((8 : Int32) &&& 31).toUInt32).toInt32) &&& (255 : Int32)).toUInt32.toUInt16.toUInt32.toInt32))])) _
    refine st9 _ ?_
    show Steps _ _ _ (T9.setTop (mkF m 41 (own_P p1 p2 p3 p4 q5 q6 (.val (.int (p1 &&& (3 : Int32)))) (.val (.ref sI)) (.val (.ref s0)) .unset .unset .unset .unset .unset .unset) [(.ref s1)])) _
    refine XS.astore X9.here hx rfl (hb hby at_41) rfl rfl (l' := (own_P p1 p2 p3 p4 q5 q6 (.val (.int (p1 &&& (3 : Int32)))) (.val (.ref sI)) (.val (.ref s0)) (.val (.ref s1)) .unset .unset .unset .unset .unset)) rfl ?_
    refine XS.iloadN X9.here hx rfl (hb hby at_43) rfl ?_
    refine XS.bipush X9.here hx rfl (hb hby at_44) ?_
    refine XS.iushr X9.here hx rfl (hb hby at_46) rfl ?_
    show Steps _ _ _ (T9.setTop (mkF m 47 (own_P p1 p2 p3 p4 q5 q6 (.val (.int (p1 &&& (3 : Int32)))) (.val (.ref sI)) (.val (.ref s0)) (.val (.ref s1)) .unset .unset .unset .unset .unset) [(.int ((p2.toUInt32 >>> ((16 : Int32) &&& 31).toUInt32).toInt32))])) _
    refine XS.sipush X9.here hx rfl (hb hby at_47) ?_
    refine XS.iand X9.here hx rfl (hb hby at_50) rfl ?_
    refine XS.i2c X9.here hx rfl (hb hby at_51) rfl ?_
    show Steps _ _ _ (T9.setTop (mkF m 52 (own_P p1 p2 p3 p4 q5 q6 (.val (.int (p1 &&& (3 : Int32)))) (.val (.ref sI)) (.val (.ref s0)) (.val (.ref s1)) .unset .unset .unset .unset .unset) [(.int ((((p2.toUInt32 >>> ((16 : Int32) &&& 31).toUInt32).toInt32) &&& (255 : Int32)).toUInt32.toUInt16.toUInt32.toInt32))])) _
    refine st10 _ ?_
    show Steps _ _ _ (T10.setTop (mkF m 55 (own_P p1 p2 p3 p4 q5 q6 (.val (.int (p1 &&& (3 : Int32)))) (.val (.ref sI)) (.val (.ref s0)) (.val (.ref s1)) .unset .unset .unset .unset .unset) [(.ref s2)])) _
    refine XS.astore X10.here hx rfl (hb hby at_55) rfl rfl (l' := (own_P p1 p2 p3 p4 q5 q6 (.val (.int (p1 &&& (3 : Int32)))) (.val (.ref sI)) (.val (.ref s0)) (.val (.ref s1)) (.val (.ref s2)) .unset .unset .unset .unset)) rfl ?_
    refine XS.iloadN X10.here hx rfl (hb hby at_57) rfl ?_
    refine XS.bipush X10.here hx rfl (hb hby at_58) ?_
    refine XS.iushr X10.here hx rfl (hb hby at_60) rfl ?_
    show Steps _ _ _ (T10.setTop (mkF m 61 (own_P p1 p2 p3 p4 q5 q6 (.val (.int (p1 &&& (3 : Int32)))) (.val (.ref sI)) (.val (.ref s0)) (.val (.ref s1)) (.val (.ref s2)) .unset .unset .unset .unset) [(.int ((p2.toUInt32 >>> ((24 : Int32) &&& 31).toUInt32).toInt32))])) _
    refine XS.sipush X10.here hx rfl (hb hby at_61) ?_
    refine XS.iand X10.here hx rfl (hb hby at_64) rfl ?_
    refine XS.i2c X10.here hx rfl (hb hby at_65) rfl ?_
    show Steps _ _ _ (T10.setTop (mkF m 66 (own_P p1 p2 p3 p4 q5 q6 (.val (.int (p1 &&& (3 : Int32)))) (.val (.ref sI)) (.val (.ref s0)) (.val (.ref s1)) (.val (.ref s2)) .unset .unset .unset .unset) [(.int ((((p2.toUInt32 >>> ((24 : Int32) &&& 31).toUInt32).toInt32) &&& (255 : Int32)).toUInt32.toUInt16.toUInt32.toInt32))])) _
    refine st11 _ ?_
    show Steps _ _ _ (T11.setTop (mkF m 69 (own_P p1 p2 p3 p4 q5 q6 (.val (.int (p1 &&& (3 : Int32)))) (.val (.ref sI)) (.val (.ref s0)) (.val (.ref s1)) (.val (.ref s2)) .unset .unset .unset .unset) [(.ref s3)])) _
    refine XS.astore X11.here hx rfl (hb hby at_69) rfl rfl (l' := (own_P p1 p2 p3 p4 q5 q6 (.val (.int (p1 &&& (3 : Int32)))) (.val (.ref sI)) (.val (.ref s0)) (.val (.ref s1)) (.val (.ref s2)) (.val (.ref s3)) .unset .unset .unset)) rfl ?_
    show Steps _ _ _ (T11.setTop (mkF m 71 (own_P p1 p2 p3 p4 q5 q6 (.val (.int (p1 &&& (3 : Int32)))) (.val (.ref sI)) (.val (.ref s0)) (.val (.ref s1)) (.val (.ref s2)) (.val (.ref s3)) .unset .unset .unset) [])) _
    refine st12 _ ?_
    show Steps _ _ _ (T12.setTop (mkF m 74 (own_P p1 p2 p3 p4 q5 q6 (.val (.int (p1 &&& (3 : Int32)))) (.val (.ref sI)) (.val (.ref s0)) (.val (.ref s1)) (.val (.ref s2)) (.val (.ref s3)) .unset .unset .unset) [(.ref b12)])) _
    refine XS.dup X12.here hx rfl (hb hby at_74) rfl rfl ?_
    show Steps _ _ _ (T12.setTop (mkF m 75 (own_P p1 p2 p3 p4 q5 q6 (.val (.int (p1 &&& (3 : Int32)))) (.val (.ref sI)) (.val (.ref s0)) (.val (.ref s1)) (.val (.ref s2)) (.val (.ref s3)) .unset .unset .unset) [(.ref b12), (.ref b12)])) _
    refine st13.trans ?_
    show Steps _ _ _ (T13.setTop (mkF m 78 (own_P p1 p2 p3 p4 q5 q6 (.val (.int (p1 &&& (3 : Int32)))) (.val (.ref sI)) (.val (.ref s0)) (.val (.ref s1)) (.val (.ref s2)) (.val (.ref s3)) .unset .unset .unset) [(.ref b12)])) _
    refine XS.astore X13.here hx rfl (hb hby at_78) rfl rfl (l' := (own_P p1 p2 p3 p4 q5 q6 (.val (.int (p1 &&& (3 : Int32)))) (.val (.ref sI)) (.val (.ref s0)) (.val (.ref s1)) (.val (.ref s2)) (.val (.ref s3)) (.val (.ref b12)) .unset .unset)) rfl ?_
    refine XS.iload X13.here hx rfl (hb hby at_80) rfl ?_
    refine XS.ifNo X13.here hx rfl (hb hby at_82) rfl ((if0 _ _).trans (tlt hc82).2.2.2) ?_
    refine XS.aload X13.here hx rfl (hb hby at_85) rfl rfl ?_
    show Steps _ _ _ (T13.setTop (mkF m 87 (own_P p1 p2 p3 p4 q5 q6 (.val (.int (p1 &&& (3 : Int32)))) (.val (.ref sI)) (.val (.ref s0)) (.val (.ref s1)) (.val (.ref s2)) (.val (.ref s3)) (.val (.ref b12)) .unset .unset) [(.ref b12)])) _
    refine st14 _ ?_
    show Steps _ _ _ (T14.setTop (mkF m 90 (own_P p1 p2 p3 p4 q5 q6 (.val (.int (p1 &&& (3 : Int32)))) (.val (.ref sI)) (.val (.ref s0)) (.val (.ref s1)) (.val (.ref s2)) (.val (.ref s3)) (.val (.ref b12)) .unset .unset) [(.ref b14), (.ref b12)])) _
    refine XS.dup X14.here hx rfl (hb hby at_90) rfl rfl ?_
    refine XS.aload X14.here hx rfl (hb hby at_91) rfl rfl ?_
    refine XS.aload X14.here hx rfl (hb hby at_93) rfl rfl ?_
    refine XS.aload X14.here hx rfl (hb hby at_95) rfl rfl ?_
    show Steps _ _ _ (T14.setTop (mkF m 97 (own_P p1 p2 p3 p4 q5 q6 (.val (.int (p1 &&& (3 : Int32)))) (.val (.ref sI)) (.val (.ref s0)) (.val (.ref s1)) (.val (.ref s2)) (.val (.ref s3)) (.val (.ref b12)) .unset .unset) [(.ref s2), (.ref s1), (.ref s0), (.ref b14), (.ref b14), (.ref b12)])) _
    refine XS.aload X14.here hx rfl (hb hby at_97) rfl rfl ?_
    show Steps _ _ _ (T14.setTop (mkF m 99 (own_P p1 p2 p3 p4 q5 q6 (.val (.int (p1 &&& (3 : Int32)))) (.val (.ref sI)) (.val (.ref s0)) (.val (.ref s1)) (.val (.ref s2)) (.val (.ref s3)) (.val (.ref b12)) .unset .unset) [(.ref s3), (.ref s2), (.ref s1), (.ref s0), (.ref b14), (.ref b14), (.ref b12)])) _
    refine st15.trans ?_
    show Steps _ _ _ (T15.setTop (mkF m 102 (own_P p1 p2 p3 p4 q5 q6 (.val (.int (p1 &&& (3 : Int32)))) (.val (.ref sI)) (.val (.ref s0)) (.val (.ref s1)) (.val (.ref s2)) (.val (.ref s3)) (.val (.ref b12)) .unset .unset) [(.ref b14), (.ref b12)])) _
    refine st16.trans ?_
    show Steps _ _ _ (T16.setTop (mkF m 107 (own_P p1 p2 p3 p4 q5 q6 (.val (.int (p1 &&& (3 : Int32)))) (.val (.ref sI)) (.val (.ref s0)) (.val (.ref s1)) (.val (.ref s2)) (.val (.ref s3)) (.val (.ref b12)) .unset .unset) [(.int (1 : Int32))])) _
    refine XS.pop X16.here hx rfl (hb hby at_107) rfl rfl ?_
    refine XS.iload X16.here hx rfl (hb hby at_108) rfl ?_
    refine XS.iconst X16.here hx rfl (hb hby at_110) ?_
    refine XS.icmpNo X16.here hx rfl (hb hby at_111) rfl (tlt hc111).2.2.2 ?_
    show Steps _ _ _ (T16.setTop (mkF m 114 (own_P p1 p2 p3 p4 q5 q6 (.val (.int (p1 &&& (3 : Int32)))) (.val (.ref sI)) (.val (.ref s0)) (.val (.ref s1)) (.val (.ref s2)) (.val (.ref s3)) (.val (.ref b12)) .unset .unset) [])) _
    refine XS.aload X16.here hx rfl (hb hby at_114) rfl rfl ?_
    show Steps _ _ _ (T16.setTop (mkF m 116 (own_P p1 p2 p3 p4 q5 q6 (.val (.int (p1 &&& (3 : Int32)))) (.val (.ref sI)) (.val (.ref s0)) (.val (.ref s1)) (.val (.ref s2)) (.val (.ref s3)) (.val (.ref b12)) .unset .unset) [(.ref b12)])) _
    refine st17 _ ?_
    show Steps _ _ _ (T17.setTop (mkF m 119 (own_P p1 p2 p3 p4 q5 q6 (.val (.int (p1 &&& (3 : Int32)))) (.val (.ref sI)) (.val (.ref s0)) (.val (.ref s1)) (.val (.ref s2)) (.val (.ref s3)) (.val (.ref b12)) .unset .unset) [(.ref b17), (.ref b12)])) _
    refine XS.dup X17.here hx rfl (hb hby at_119) rfl rfl ?_
    refine XS.aload X17.here hx rfl (hb hby at_120) rfl rfl ?_
    refine XS.aload X17.here hx rfl (hb hby at_122) rfl rfl ?_
    refine XS.aload X17.here hx rfl (hb hby at_124) rfl rfl ?_
    show Steps _ _ _ (T17.setTop (mkF m 126 (own_P p1 p2 p3 p4 q5 q6 (.val (.int (p1 &&& (3 : Int32)))) (.val (.ref sI)) (.val (.ref s0)) (.val (.ref s1)) (.val (.ref s2)) (.val (.ref s3)) (.val (.ref b12)) .unset .unset) [(.ref s3), (.ref s2), (.ref s1), (.ref b17), (.ref b17), (.ref b12)])) _
    refine XS.aload X17.here hx rfl (hb hby at_126) rfl rfl ?_
    show Steps _ _ _ (T17.setTop (mkF m 128 (own_P p1 p2 p3 p4 q5 q6 (.val (.int (p1 &&& (3 : Int32)))) (.val (.ref sI)) (.val (.ref s0)) (.val (.ref s1)) (.val (.ref s2)) (.val (.ref s3)) (.val (.ref b12)) .unset .unset) [(.ref s0), (.ref s3), (.ref s2), (.ref s1), (.ref b17), (.ref b17), (.ref b12)])) _
    refine st18.trans ?_
    show Steps _ _ _ (T18.setTop (mkF m 131 (own_P p1 p2 p3 p4 q5 q6 (.val (.int (p1 &&& (3 : Int32)))) (.val (.ref sI)) (.val (.ref s0)) (.val (.ref s1)) (.val (.ref s2)) (.val (.ref s3)) (.val (.ref b12)) .unset .unset) [(.ref b17), (.ref b12)])) _
    refine st19.trans ?_
    show Steps _ _ _ (T19.setTop (mkF m 136 (own_P p1 p2 p3 p4 q5 q6 (.val (.int (p1 &&& (3 : Int32)))) (.val (.ref sI)) (.val (.ref s0)) (.val (.ref s1)) (.val (.ref s2)) (.val (.ref s3)) (.val (.ref b12)) .unset .unset) [(.int (1 : Int32))])) _
    refine XS.pop X19.here hx rfl (hb hby at_136) rfl rfl ?_
    refine XS.iload X19.here hx rfl (hb hby at_137) rfl ?_
    refine XS.iconst X19.here hx rfl (hb hby at_139) ?_
    refine XS.icmpNo X19.here hx rfl (hb hby at_140) rfl (tlt hc140).2.2.2 ?_
    show Steps _ _ _ (T19.setTop (mkF m 143 (own_P p1 p2 p3 p4 q5 q6 (.val (.int (p1 &&& (3 : Int32)))) (.val (.ref sI)) (.val (.ref s0)) (.val (.ref s1)) (.val (.ref s2)) (.val (.ref s3)) (.val (.ref b12)) .unset .unset) [])) _
    refine XS.aload X19.here hx rfl (hb hby at_143) rfl rfl ?_
    show Steps _ _ _ (T19.setTop (mkF m 145 (own_P p1 p2 p3 p4 q5 q6 (.val (.int (p1 &&& (3 : Int32)))) (.val (.ref sI)) (.val (.ref s0)) (.val (.ref s1)) (.val (.ref s2)) (.val (.ref s3)) (.val (.ref b12)) .unset .unset) [(.ref b12)])) _
    refine st20 _ ?_
    show Steps _ _ _ (T20.setTop (mkF m 148 (own_P p1 p2 p3 p4 q5 q6 (.val (.int (p1 &&& (3 : Int32)))) (.val (.ref sI)) (.val (.ref s0)) (.val (.ref s1)) (.val (.ref s2)) (.val (.ref s3)) (.val (.ref b12)) .unset .unset) [(.ref b20), (.ref b12)])) _
    refine XS.dup X20.here hx rfl (hb hby at_148) rfl rfl ?_
    refine XS.aload X20.here hx rfl (hb hby at_149) rfl rfl ?_
    refine XS.aload X20.here hx rfl (hb hby at_151) rfl rfl ?_
    refine XS.aload X20.here hx rfl (hb hby at_153) rfl rfl ?_
    show Steps _ _ _ (T20.setTop (mkF m 155 (own_P p1 p2 p3 p4 q5 q6 (.val (.int (p1 &&& (3 : Int32)))) (.val (.ref sI)) (.val (.ref s0)) (.val (.ref s1)) (.val (.ref s2)) (.val (.ref s3)) (.val (.ref b12)) .unset .unset) [(.ref s0), (.ref s3), (.ref s2), (.ref b20), (.ref b20), (.ref b12)])) _
    refine XS.aload X20.here hx rfl (hb hby at_155) rfl rfl ?_
    show Steps _ _ _ (T20.setTop (mkF m 157 (own_P p1 p2 p3 p4 q5 q6 (.val (.int (p1 &&& (3 : Int32)))) (.val (.ref sI)) (.val (.ref s0)) (.val (.ref s1)) (.val (.ref s2)) (.val (.ref s3)) (.val (.ref b12)) .unset .unset) [(.ref s1), (.ref s0), (.ref s3), (.ref s2), (.ref b20), (.ref b20), (.ref b12)])) _
    refine st21.trans ?_
    show Steps _ _ _ (T21.setTop (mkF m 160 (own_P p1 p2 p3 p4 q5 q6 (.val (.int (p1 &&& (3 : Int32)))) (.val (.ref sI)) (.val (.ref s0)) (.val (.ref s1)) (.val (.ref s2)) (.val (.ref s3)) (.val (.ref b12)) .unset .unset) [(.ref b20), (.ref b12)])) _
    refine st22.trans ?_
    show Steps _ _ _ (T22.setTop (mkF m 165 (own_P p1 p2 p3 p4 q5 q6 (.val (.int (p1 &&& (3 : Int32)))) (.val (.ref sI)) (.val (.ref s0)) (.val (.ref s1)) (.val (.ref s2)) (.val (.ref s3)) (.val (.ref b12)) .unset .unset) [(.int (1 : Int32))])) _
    refine XS.pop X22.here hx rfl (hb hby at_165) rfl rfl ?_
    show Steps _ _ _ (T22.setTop (mkF m 166 (own_P p1 p2 p3 p4 q5 q6 (.val (.int (p1 &&& (3 : Int32)))) (.val (.ref sI)) (.val (.ref s0)) (.val (.ref s1)) (.val (.ref s2)) (.val (.ref s3)) (.val (.ref b12)) .unset .unset) [])) _
    refine st23 _ ?_
    show Steps _ _ _ (T23.setTop (mkF m 169 (own_P p1 p2 p3 p4 q5 q6 (.val (.int (p1 &&& (3 : Int32)))) (.val (.ref sI)) (.val (.ref s0)) (.val (.ref s1)) (.val (.ref s2)) (.val (.ref s3)) (.val (.ref b12)) .unset .unset) [(.ref b23)])) _
    refine XS.dup X23.here hx rfl (hb hby at_169) rfl rfl ?_
    show Steps _ _ _ (T23.setTop (mkF m 170 (own_P p1 p2 p3 p4 q5 q6 (.val (.int (p1 &&& (3 : Int32)))) (.val (.ref sI)) (.val (.ref s0)) (.val (.ref s1)) (.val (.ref s2)) (.val (.ref s3)) (.val (.ref b12)) .unset .unset) [(.ref b23), (.ref b23)])) _
    refine st24.trans ?_
    show Steps _ _ _ (T24.setTop (mkF m 173 (own_P p1 p2 p3 p4 q5 q6 (.val (.int (p1 &&& (3 : Int32)))) (.val (.ref sI)) (.val (.ref s0)) (.val (.ref s1)) (.val (.ref s2)) (.val (.ref s3)) (.val (.ref b12)) .unset .unset) [(.ref b23)])) _
    refine XS.astore X24.here hx rfl (hb hby at_173) rfl rfl (l' := (own_P p1 p2 p3 p4 q5 q6 (.val (.int (p1 &&& (3 : Int32)))) (.val (.ref sI)) (.val (.ref s0)) (.val (.ref s1)) (.val (.ref s2)) (.val (.ref s3)) (.val (.ref b12)) (.val (.ref b23)) .unset)) rfl ?_
    refine XS.aload X24.here hx rfl (hb hby at_175) rfl rfl ?_
    refine XS.lload X24.here hx rfl (hb hby at_177) rfl ?_
    show Steps _ _ _ (T24.setTop (mkF m 179 (own_P p1 p2 p3 p4 q5 q6 (.val (.int (p1 &&& (3 : Int32)))) (.val (.ref sI)) (.val (.ref s0)) (.val (.ref s1)) (.val (.ref s2)) (.val (.ref s3)) (.val (.ref b12)) (.val (.ref b23)) .unset) [(.long q5), (.ref b23)])) _
    refine st25 _ ?_
    show Steps _ _ _ (T25.setTop (mkF m 182 (own_P p1 p2 p3 p4 q5 q6 (.val (.int (p1 &&& (3 : Int32)))) (.val (.ref sI)) (.val (.ref s0)) (.val (.ref s1)) (.val (.ref s2)) (.val (.ref s3)) (.val (.ref b12)) (.val (.ref b23)) .unset) [(.ref bV), (.ref b23)])) _
    refine st26.trans ?_
    show Steps _ _ _ (T26.setTop (mkF m 187 (own_P p1 p2 p3 p4 q5 q6 (.val (.int (p1 &&& (3 : Int32)))) (.val (.ref sI)) (.val (.ref s0)) (.val (.ref s1)) (.val (.ref s2)) (.val (.ref s3)) (.val (.ref b12)) (.val (.ref b23)) .unset) [(.int (1 : Int32))])) _
    refine XS.pop X26.here hx rfl (hb hby at_187) rfl rfl ?_
    show Steps _ _ _ (T26.setTop (mkF m 188 (own_P p1 p2 p3 p4 q5 q6 (.val (.int (p1 &&& (3 : Int32)))) (.val (.ref sI)) (.val (.ref s0)) (.val (.ref s1)) (.val (.ref s2)) (.val (.ref s3)) (.val (.ref b12)) (.val (.ref b23)) .unset) [])) _
    refine st27 _ ?_
    show Steps _ _ _ (T27.setTop (mkF m 191 (own_P p1 p2 p3 p4 q5 q6 (.val (.int (p1 &&& (3 : Int32)))) (.val (.ref sI)) (.val (.ref s0)) (.val (.ref s1)) (.val (.ref s2)) (.val (.ref s3)) (.val (.ref b12)) (.val (.ref b23)) .unset) [(.ref b27)])) _
    refine XS.dup X27.here hx rfl (hb hby at_191) rfl rfl ?_
    show Steps _ _ _ (T27.setTop (mkF m 192 (own_P p1 p2 p3 p4 q5 q6 (.val (.int (p1 &&& (3 : Int32)))) (.val (.ref sI)) (.val (.ref s0)) (.val (.ref s1)) (.val (.ref s2)) (.val (.ref s3)) (.val (.ref b12)) (.val (.ref b23)) .unset) [(.ref b27), (.ref b27)])) _
    refine st28 _ ?_
    show Steps _ _ _ (T28.setTop (mkF m 195 (own_P p1 p2 p3 p4 q5 q6 (.val (.int (p1 &&& (3 : Int32)))) (.val (.ref sI)) (.val (.ref s0)) (.val (.ref s1)) (.val (.ref s2)) (.val (.ref s3)) (.val (.ref b12)) (.val (.ref b23)) .unset) [(.ref b28), (.ref b27), (.ref b27)])) _
    refine XS.dup X28.here hx rfl (hb hby at_195) rfl rfl ?_
    refine XS.aload X28.here hx rfl (hb hby at_196) rfl rfl ?_
    refine XS.aload X28.here hx rfl (hb hby at_198) rfl rfl ?_
    show Steps _ _ _ (T28.setTop (mkF m 200 (own_P p1 p2 p3 p4 q5 q6 (.val (.int (p1 &&& (3 : Int32)))) (.val (.ref sI)) (.val (.ref s0)) (.val (.ref s1)) (.val (.ref s2)) (.val (.ref s3)) (.val (.ref b12)) (.val (.ref b23)) .unset) [(.ref b12), (.ref sI), (.ref b28), (.ref b28), (.ref b27), (.ref b27)])) _
    refine st29.trans ?_
    show Steps _ _ _ (T29.setTop (mkF m 203 (own_P p1 p2 p3 p4 q5 q6 (.val (.int (p1 &&& (3 : Int32)))) (.val (.ref sI)) (.val (.ref s0)) (.val (.ref s1)) (.val (.ref s2)) (.val (.ref s3)) (.val (.ref b12)) (.val (.ref b23)) .unset) [(.ref b28), (.ref b27), (.ref b27)])) _
    refine XS.iloadN X29.here hx rfl (hb hby at_203) rfl ?_
    refine XS.iloadN X29.here hx rfl (hb hby at_204) rfl ?_
    refine XS.lload X29.here hx rfl (hb hby at_205) rfl ?_
    refine XS.lload X29.here hx rfl (hb hby at_207) rfl ?_
    show Steps _ _ _ (T29.setTop (mkF m 209 (own_P p1 p2 p3 p4 q5 q6 (.val (.int (p1 &&& (3 : Int32)))) (.val (.ref sI)) (.val (.ref s0)) (.val (.ref s1)) (.val (.ref s2)) (.val (.ref s3)) (.val (.ref b12)) (.val (.ref b23)) .unset) [(.long q6), (.long q5), (.int p4), (.int p3), (.ref b28), (.ref b27), (.ref b27)])) _
    refine XS.aload X29.here hx rfl (hb hby at_209) rfl rfl ?_
    refine XS.aconstNull X29.here hx rfl (hb hby at_211) ?_
    refine XS.aconstNull X29.here hx rfl (hb hby at_212) ?_
    show Steps _ _ _ (T29.setTop (mkF m 213 (own_P p1 p2 p3 p4 q5 q6 (.val (.int (p1 &&& (3 : Int32)))) (.val (.ref sI)) (.val (.ref s0)) (.val (.ref s1)) (.val (.ref s2)) (.val (.ref s3)) (.val (.ref b12)) (.val (.ref b23)) .unset) [.null, .null, (.ref b23), (.long q6), (.long q5), (.int p4), (.int p3), (.ref b28), (.ref b27), (.ref b27)])) _
    refine st30 _ ?_
    show Steps _ _ _ (T30.setTop (mkF m 216 (own_P p1 p2 p3 p4 q5 q6 (.val (.int (p1 &&& (3 : Int32)))) (.val (.ref sI)) (.val (.ref s0)) (.val (.ref s1)) (.val (.ref s2)) (.val (.ref s3)) (.val (.ref b12)) (.val (.ref b23)) .unset) [(.ref b30), .null, .null, (.ref b23), (.long q6), (.long q5), (.int p4), (.int p3), (.ref b28), (.ref b27), (.ref b27)])) _
    refine XS.dup X30.here hx rfl (hb hby at_216) rfl rfl ?_
    show Steps _ _ _ (T30.setTop (mkF m 217 (own_P p1 p2 p3 p4 q5 q6 (.val (.int (p1 &&& (3 : Int32)))) (.val (.ref sI)) (.val (.ref s0)) (.val (.ref s1)) (.val (.ref s2)) (.val (.ref s3)) (.val (.ref b12)) (.val (.ref b23)) .unset) [(.ref b30), (.ref b30), .null, .null, (.ref b23), (.long q6), (.long q5), (.int p4), (.int p3), (.ref b28), (.ref b27), (.ref b27)])) _
    refine st31.trans ?_
    show Steps _ _ _ (T31.setTop (mkF m 220 (own_P p1 p2 p3 p4 q5 q6 (.val (.int (p1 &&& (3 : Int32)))) (.val (.ref sI)) (.val (.ref s0)) (.val (.ref s1)) (.val (.ref s2)) (.val (.ref s3)) (.val (.ref b12)) (.val (.ref b23)) .unset) [(.ref b30), .null, .null, (.ref b23), (.long q6), (.long q5), (.int p4), (.int p3), (.ref b28), (.ref b27), (.ref b27)])) _
    refine st32.trans ?_
    show Steps _ _ _ (T32.setTop (mkF m 223 (own_P p1 p2 p3 p4 q5 q6 (.val (.int (p1 &&& (3 : Int32)))) (.val (.ref sI)) (.val (.ref s0)) (.val (.ref s1)) (.val (.ref s2)) (.val (.ref s3)) (.val (.ref b12)) (.val (.ref b23)) .unset) [(.ref b27)])) _
    refine XS.astore X32.here hx rfl (hb hby at_223) rfl rfl (l' := (own_P p1 p2 p3 p4 q5 q6 (.val (.int (p1 &&& (3 : Int32)))) (.val (.ref sI)) (.val (.ref s0)) (.val (.ref s1)) (.val (.ref s2)) (.val (.ref s3)) (.val (.ref b12)) (.val (.ref b23)) (.val (.ref b27)))) rfl ?_
    refine XS.aload X32.here hx rfl (hb hby at_225) rfl rfl ?_
    show Steps _ _ _ (T32.setTop (mkF m 227 (own_P p1 p2 p3 p4 q5 q6 (.val (.int (p1 &&& (3 : Int32)))) (.val (.ref sI)) (.val (.ref s0)) (.val (.ref s1)) (.val (.ref s2)) (.val (.ref s3)) (.val (.ref b12)) (.val (.ref b23)) (.val (.ref b27))) [(.ref b27)])) _
    refine st33.trans ?_
    show Steps _ _ _ (T33.setTop (mkF m 230 (own_P p1 p2 p3 p4 q5 q6 (.val (.int (p1 &&& (3 : Int32)))) (.val (.ref sI)) (.val (.ref s0)) (.val (.ref s1)) (.val (.ref s2)) (.val (.ref s3)) (.val (.ref b12)) (.val (.ref b23)) (.val (.ref b27))) [(.int (3 : Int32))])) _
    refine XS.iload X33.here hx rfl (hb hby at_230) rfl ?_
    refine XS.icmpNo X33.here hx rfl (hb hby at_232) rfl (teq hc232).2 ?_
    refine XS.iconst X33.here hx rfl (hb hby at_235) ?_
    refine XS.goto X33.here hx rfl (pc0 := 236) (pc' := 240) rfl (hb hby at_236) (by decide) (by decide) ?_
    show Steps _ _ _ (T33.setTop (mkF m 240 (own_P p1 p2 p3 p4 q5 q6 (.val (.int (p1 &&& (3 : Int32)))) (.val (.ref sI)) (.val (.ref s0)) (.val (.ref s1)) (.val (.ref s2)) (.val (.ref s3)) (.val (.ref b12)) (.val (.ref b23)) (.val (.ref b27))) [(.int (1 : Int32))])) _
    exact retN X33 hx (t := .boolean) Bd.returns (by simp) (hb hby at_240) hr
  · show Q_law3 Z p1 p2 p3 p4 q5 q6 cs wD wM wL wE0 wO aM cD cE0 h0 n0 _ T33.heap _
    rw [K33]
    exact ⟨rfl, N33⟩
theorem own_m3 (p : Int32) : (p &&& (3 : Int32)) = 0 ∨ (p &&& (3 : Int32)) = 1 ∨ (p &&& (3 : Int32)) = 2 ∨ (p &&& (3 : Int32)) = 3 := by
  have h : (p &&& (3 : Int32)).toBitVec.toNat ≤ 3 := by
    show (p.toBitVec &&& 3#32).toNat ≤ 3
    rw [BitVec.toNat_and]; exact Nat.and_le_right
  have q : (p &&& (3 : Int32)).toBitVec.toNat = 0 ∨ (p &&& (3 : Int32)).toBitVec.toNat = 1 ∨ (p &&& (3 : Int32)).toBitVec.toNat = 2 ∨ (p &&& (3 : Int32)).toBitVec.toNat = 3 := by omega
  rcases q with q | q | q | q
  · exact Or.inl (Int32.toBitVec_inj.mp (BitVec.eq_of_toNat_eq q))
  · exact Or.inr (Or.inl (Int32.toBitVec_inj.mp (BitVec.eq_of_toNat_eq q)))
  · exact Or.inr (Or.inr (Or.inl (Int32.toBitVec_inj.mp (BitVec.eq_of_toNat_eq q))))
  · exact Or.inr (Or.inr (Or.inr (Int32.toBitVec_inj.mp (BitVec.eq_of_toNat_eq q))))
theorem own_len {args : Array Value} {s : State} {t : Term} {a : Addr} {cl : Cell} {ty : FieldType} {n : Int32} (hn : ¬ n < 0) (A : Arr s s.heap a cl ty) (ev : t.eval args s none [] s = some (.ref a)) (h : (Term.length t).eval args s none [] s = some (.int n)) : cl.slots.size = n.toNatClampNeg := by
  have q := A.fin (Vm.Alike.refl _)
  by_cases hl : cl.slots.size < 2 ^ 31
  · rw [len_f ev q hl] at h
    have e := Value.int.inj (Option.some.inj h)
    rw [← e]; simp only [Int32.toNatClampNeg, len_toInt hl]; rfl
  · simp [Term.eval, ev, q, hl] at h
theorem own_idx {q : Int64} (h1 : ¬ (lcmpW q (-128 : Int64) < (0 : Int32))) (h2 : ¬ ((0 : Int32) < lcmpW q (127 : Int64))) : ¬ ((q.toInt32) + (128 : Int32)) < 0 ∧ ((q.toInt32) + (128 : Int32)) < 256 := by
  rw [lw_lt, Int64.lt_iff_toInt_lt] at h1
  rw [lw_gt, Int64.lt_iff_toInt_lt] at h2
  have a1 : (-128 : Int64).toInt = -128 := by decide
  have a2 : (127 : Int64).toInt = 127 := by decide
  have b0 : (0 : Int32).toInt = 0 := rfl
  have b1 : (128 : Int32).toInt = 128 := by decide
  have b2 : (256 : Int32).toInt = 256 := by decide
  have e1 : q.toInt32.toInt = q.toInt := by
    rw [Int64.toInt_toInt32]; exact Int.bmod_eq_of_le (by omega) (by omega)
  have e2 : ((q.toInt32) + (128 : Int32)).toInt = q.toInt + 128 := by
    rw [Int32.toInt_add, e1, b1]; exact Int.bmod_eq_of_le (by omega) (by omega)
  rw [Int32.lt_iff_toInt_lt, Int32.lt_iff_toInt_lt, e2, b0, b2]; omega
theorem own_cache {args : Array Value} {s : State} {C n d K : String} {c2 : Cond} {a : Addr} {cl : Cell} {ty : FieldType} (A : Arr s s.heap a cl ty) (ev : (Term.static C n d).eval args s none [] s = some (.ref a))
    (h : (Cond.all (Term.static C n d) (Cond.and (Cond.exactly (Term.elem (Term.static C n d) (Term.index 0)) K) c2)).value args s none s [] = some true) {k : Int32} (h0 : ¬ k < 0) (hk : ¬ (k < 0 ∨ cl.slots.size ≤ k.toNatClampNeg)) : ∃ x, cl.slots[k.toNatClampNeg]? = some (.ref x) ∧ Exa s s.heap x K := by
  have q := A.fin (Vm.Alike.refl _)
  have hi : k.toNatClampNeg < cl.slots.size := Nat.lt_of_not_le fun z => hk (Or.inr z)
  obtain ⟨r, -⟩ := and_e (Cond.all_elim ev q h k.toNatClampNeg hi)
  obtain ⟨x, ex⟩ := exa_v r
  have ek : k.toNatClampNeg.toInt32 = k := (back32 h0).1
  have ei : (Term.index 0).eval args s none [k.toNatClampNeg] s = some (.int k) := by
    show (([k.toNatClampNeg] : List Nat)[0]?).map (fun i => Value.int i.toInt32) = _
    simp [ek]
  have ev2 : (Term.static C n d).eval args s none [k.toNatClampNeg] s = some (.ref a) := ev
  have hs := (elem_in ex ev2 ei A.1).2
  have e' : (Term.elem (Term.static C n d) (Term.int k)).eval args s none [] s = some (.ref x) := by rw [elem_f ev (Term.int_eval k) q h0]; exact hs
  refine ⟨x, hs, Exa.start e' ?_⟩
  simp only [Cond.value, ex, e'] at r ⊢
  exact r
theorem comes_1 {Post : Tables → Env → Array Value → State → Outcome → State → Prop} (hpost : ∀ tb e args s v u, (limb_1_1.after args s (.returned v) u = true ∧ limb_1_2.after args s (.returned v) u = true ∧ True) → ReturnedEndW s (.returned v) u (Jvm.fieldLocs frame_1_writes args s ++ Jvm.arrayLocs frame_1_arrays args s ++ Jvm.staticLocs frame_1_statics s) 72 5440 → Post tb e args s (.returned v) u) :
    ArmFor flags0 classFile x code maxLocals ret World_1 tables_1 room_1 Calls_1 rest_1 Pre_1 Post := by
  intro l hfl _ _ p e ha hc hk s m args below hf hA hF happ hP
  obtain ⟨hcalls, hrest, hpre⟩ := hP
  obtain ⟨-, -, -, hnamed, -, -, -, hat⟩ := (Spec.applies_iff hf).mp happ
  obtain ⟨hg, hn⟩ := and_e (Cond.before_iff.mp (show (Jvm.Cond.and given_1 narrow_1).before args s = true from hpre))
  obtain ⟨g25, g26⟩ := and_e hg
  obtain ⟨g27, g28⟩ := and_e g26
  obtain ⟨g29, g30⟩ := and_e g28
  obtain ⟨g31, g32⟩ := and_e g30
  obtain ⟨g33, g34⟩ := and_e g32
  obtain ⟨g35, g36⟩ := and_e g34
  obtain ⟨w0, w1, w2, w3, w4, w5, rfl⟩ : ∃ w0 w1 w2 w3 w4 w5 : Value, args = #[w0, w1, w2, w3, w4, w5] := by
    have hs : args.size = 6 := by simpa [Cond.value, given_1] using g25
    obtain ⟨L⟩ := args
    match L, hs with
    | [w0, w1, w2, w3, w4, w5], _ => exact ⟨w0, w1, w2, w3, w4, w5, rfl⟩
  have hw := fun d (hd : d ∈ tables_1) => atoms_spec (ws := Jvm.Cond.code x code maxLocals ret :: tables_1) hat d (List.mem_cons_of_mem _ hd)
  have hfit : Fit s := fun {y c} hc i hi => by
    obtain ⟨ha, rfl⟩ := Array.getElem?_eq_some_iff.mp hc
    have q := List.all_eq_true.mp ((Array.all_eq_true_iff_forall_mem.mp hF) _ (Array.getElem_mem ha)) i (List.mem_range.mpr hi)
    simpa [Array.getElem?_eq_getElem hi] using q
  obtain ⟨hsets, hown0⟩ := atoms_of _ (rest_1_c_eq ▸ (show rest_1_c.before _ s = true from hrest))
  have hr0 := Cond.before_iff.mp hown0
  obtain ⟨i0, ei0⟩ := is_v g27
  obtain rfl : w0 = (.int i0) := Option.some.inj ei0
  obtain ⟨i1, ei1⟩ := is_v g29
  obtain rfl : w1 = (.int i1) := Option.some.inj ei1
  obtain ⟨i2, ei2⟩ := is_v g31
  obtain rfl : w2 = (.int i2) := Option.some.inj ei2
  obtain ⟨i3, ei3⟩ := is_v g33
  obtain rfl : w3 = (.int i3) := Option.some.inj ei3
  obtain ⟨i4, ei4⟩ := isL_v g35
  obtain rfl : w4 = (.long i4) := Option.some.inj ei4
  obtain ⟨i5, ei5⟩ := isL_v g36
  obtain rfl : w5 = (.long i5) := Option.some.inj ei5
  obtain ⟨⟨cM, kM, aM, m1, m2, m3⟩, -⟩ := hcalls
  have Mr : own_mir s "[Ljava/lang/Object;" aM := ⟨cM, kM, m1, m2, m3.1⟩
  obtain ⟨cs, evS⟩ := is_v (Cond.before_iff.mp (hsets _ (List.mem_of_getElem? (i := 1) rfl)))
  have SCS := Sta.start evS (Or.inl (hsets _ (List.mem_of_getElem? (i := 0) rfl)))
  have hcs : ¬ (cs = (0 : Int32)) := gotF (Cond.eq_ints evS (Term.int_eval 0)) (not_v (Cond.before_iff.mp (hsets _ (List.mem_of_getElem? (i := 2) rfl))))
  obtain ⟨wD, evD⟩ := arr_v (Cond.before_iff.mp (hsets _ (List.mem_of_getElem? (i := 15) rfl)))
  obtain ⟨cD, AD⟩ := Arr.start evD (Cond.before_iff.mp (hsets _ (List.mem_of_getElem? (i := 15) rfl)))
  have SDC := Sta.start evD (Or.inr ⟨(own_w hw 28 rfl), (hsets _ (List.mem_of_getElem? (i := 11) rfl))⟩)
  have hD := own_len (by decide) AD evD (own_int (Cond.before_iff.mp (hsets _ (List.mem_of_getElem? (i := 17) rfl))))
  obtain ⟨wM, evM⟩ := exa_v (Cond.before_iff.mp (hsets _ (List.mem_of_getElem? (i := 20) rfl)))
  have EM := Exa.start evM (Cond.before_iff.mp (hsets _ (List.mem_of_getElem? (i := 20) rfl)))
  have SEM := Sta.start evM (Or.inl (hsets _ (List.mem_of_getElem? (i := 19) rfl)))
  have FM := Fld.start ((fld_at evM).symm.trans (own_int (Cond.before_iff.mp (hsets _ (List.mem_of_getElem? (i := 24) rfl)))))
  obtain ⟨wL, evL⟩ := exa_v (Cond.before_iff.mp (hsets _ (List.mem_of_getElem? (i := 27) rfl)))
  have EL := Exa.start evL (Cond.before_iff.mp (hsets _ (List.mem_of_getElem? (i := 27) rfl)))
  have SEL := Sta.start evL (Or.inl (hsets _ (List.mem_of_getElem? (i := 26) rfl)))
  obtain ⟨wE0, evE⟩ := arr_v (Cond.before_iff.mp (hsets _ (List.mem_of_getElem? (i := 28) rfl)))
  obtain ⟨cE0, AE⟩ := Arr.start evE (Cond.before_iff.mp (hsets _ (List.mem_of_getElem? (i := 28) rfl)))
  have FL := Fld.start ((fld_at evL).symm.trans evE)
  have hL := own_len (by decide) AE evE (own_int (Cond.before_iff.mp (hsets _ (List.mem_of_getElem? (i := 30) rfl))))
  obtain ⟨wO, evO⟩ := exa_v (Cond.before_iff.mp (hsets _ (List.mem_of_getElem? (i := 34) rfl)))
  have EO := Exa.start evO (Cond.before_iff.mp (hsets _ (List.mem_of_getElem? (i := 34) rfl)))
  have SEO := Sta.start evO (Or.inl (hsets _ (List.mem_of_getElem? (i := 33) rfl)))
  obtain ⟨wC, evC⟩ := arr_v (Cond.before_iff.mp (hsets _ (List.mem_of_getElem? (i := 43) rfl)))
  obtain ⟨cC, AC⟩ := Arr.start evC (Cond.before_iff.mp (hsets _ (List.mem_of_getElem? (i := 43) rfl)))
  have SC := Sta.start evC (Or.inl (hsets _ (List.mem_of_getElem? (i := 42) rfl)))
  have hC := own_len (by decide) AC evC (own_int (Cond.before_iff.mp (hsets _ (List.mem_of_getElem? (i := 45) rfl))))
  have HL : ∀ (h0 : Heap), s.heap.size ≤ h0.size → Old s s.heap.size h0 → MetFree l own_y1 (head1 (Jvm.Cond.code own_y1 jdk_35_method_24_code 3 (some (.object "java/lang/Long")) :: []) own_r1) (fun a U => a = #[(.long i4)] ∧ s.Warmed39 U.vm ∧ U.heap = h0) (fun _ _ _ _ _ => True) (fun _ U o U' => ∃ v L, o = .returned v ∧ Q_lv s h0 s.heap.size v U'.heap L ∧ FrameEnd  U o U' L own_r1.cells own_r1.slots) := by
    by_cases hA : lcmpW i4 (-128 : Int64) < (0 : Int32)
    · exact fun h0 Z0 Ol => rm_lvA l s _ hw [] i4 h0 s.heap.size Z0 hA
    · by_cases hB : (0 : Int32) < lcmpW i4 (127 : Int64)
      · exact fun h0 Z0 Ol => rm_lvB l s _ hw [] i4 h0 s.heap.size Z0 hA hB
      · obtain ⟨j0, j1⟩ := own_idx hA hB
        have hin := inb_of hC ⟨j0, j1⟩
        obtain ⟨wx, hat, Ewx⟩ := own_cache AC evC (Cond.before_iff.mp (hsets _ (List.mem_of_getElem? (i := 46) rfl))) j0 hin
        exact fun h0 Z0 Ol => rm_lvC l s _ hw [] i4 wC cC wx h0 s.heap.size Z0 Ol SC (AC.ext Ol.2) (Ewx.ext Ol.2) hin hat hA hB
  have fin : MetFree l x (head1 (Jvm.Cond.code x code maxLocals ret :: tables_1) room_1) (fun a U => a = #[(.int i0), (.int i1), (.int i2), (.int i3), (.long i4), (.long i5)] ∧ s.Warmed39 U.vm ∧ U.heap = s.heap) (fun _ _ _ _ _ => True) (fun _ U o U' => ∃ v L, o = .returned v ∧ (v = some (.int (1 : Int32)) ∧ Fr s.heap.size L) ∧ ReturnedEndW U o U' L room_1.cells room_1.slots) := by
    rcases own_m3 i0 with e | e | e | e
    · exact rm_law0 l s _ hw tables_1 i0 i1 i2 i3 i4 i5 cs wD wM wL wE0 wO aM cD cE0 s.heap s.heap.size (Nat.le_refl _) (Old.start s) SCS hcs SDC AD hD SEM EM FM SEL EL FL AE hL SEO EO Mr HL (by rw [e]; decide) (by rw [e]; decide) (by rw [e]; decide) e.symm
    · exact rm_law1 l s _ hw tables_1 i0 i1 i2 i3 i4 i5 cs wD wM wL wE0 wO aM cD cE0 s.heap s.heap.size (Nat.le_refl _) (Old.start s) SCS hcs SDC AD hD SEM EM FM SEL EL FL AE hL SEO EO Mr HL (by rw [e]; decide) (by rw [e]; decide) (by rw [e]; decide) e.symm
    · exact rm_law2 l s _ hw tables_1 i0 i1 i2 i3 i4 i5 cs wD wM wL wE0 wO aM cD cE0 s.heap s.heap.size (Nat.le_refl _) (Old.start s) SCS hcs SDC AD hD SEM EM FM SEL EL FL AE hL SEO EO Mr HL (by rw [e]; decide) (by rw [e]; decide) (by rw [e]; decide) e.symm
    · exact rm_law3 l s _ hw tables_1 i0 i1 i2 i3 i4 i5 cs wD wM wL wE0 wO aM cD cE0 s.heap s.heap.size (Nat.le_refl _) (Old.start s) SCS hcs SDC AD hD SEM EM FM SEL EL FL AE hL SEO EO Mr HL (by rw [e]; decide) (by rw [e]; decide) (by rw [e]; decide) e.symm
  obtain ⟨n, o, h1, h2, h3, _, L, rfl, ⟨rfl, N⟩, hq⟩ := fin p e ha hc hk s m _ below hf ((Spec.applies_iff_loose hf).mp happ).1 ⟨rfl, State.Warmed39.refl s, rfl⟩ trivial
  refine ⟨n, _, h1, h2, h3, hpost _ _ _ _ _ _ ⟨Cond.after_iff.mpr rfl, Cond.after_iff.mpr (eq_i res_at (Term.int_eval (1)) rfl), trivial⟩ ⟨hq.1, hq.2.1, hq.2.2.1, (hq.2.2.2.sift fun y hy => Or.inr (N y hy)).mono (by decide) (by decide)⟩⟩
theorem main_1_1 : Claimed_1_1 := comes_1 fun _ _ _ _ _ _ h hF => ⟨h.1, hF⟩
theorem main_1_2 : Claimed_1_2 := comes_1 fun _ _ _ _ _ _ h hF => ⟨h.2.1, hF⟩
end Jvm.Pilot.@@N@@
namespace Jvm.Pilot.@@N@@
open Jvm Jvm.ClassFile Sem Op Lib Jvm.Free Jvm.Stand Jvm.Pilot.@@N@@.Jvm.D
/-! MADE BY PROGRAM (witnessworld.py) out of the Statement's table words and the real class files: 47 classes; the members and pool entries that the words name. The judged class is class 1, her method 1. -/
namespace start1
open Jvm.ClassFile
def u (s : String) : CpInfo := .utf8 (stringToUtf16 s)
/-- a pool by its gaps: so many unusable entries, then the entry; so many at the end -/
def gap : Nat → List CpInfo → List CpInfo
  | 0, r => r
  | n + 1, r => .unusable :: gap n r
def poolList (es : List (Nat × CpInfo)) (last : Nat) : List CpInfo := es.foldr (fun e r => gap e.1 (e.2 :: r)) (gap last [])
def pool (es : List (Nat × CpInfo)) (last : Nat) : Array CpInfo := ⟨poolList es last⟩
def fileOf (pool : Array CpInfo) (this : Nat) (attrs : Array Attribute := #[]) (ms : Array MethodInfo := #[]) (fl : Nat := 33) (sup : Nat := 0) (ifs : Array Nat := #[]) (fds : Array FieldInfo := #[]) : ClassFile where
  minorVersion := 0
  majorVersion := 65
  constantPool := pool
  accessFlags := fl
  thisClass := this
  superClass := sup
  interfaces := ifs
  fields := fds
  methods := ms
  attributes := attrs
def plain (name : String) (sup : Option ClassId) : Class where
  name := name
  kind := .ordinary
  loader := none
  accessFlags := 33
  super := sup
  interfaces := #[]
  cf := none
  fields := #[]
  methods := #[]
  instanceTypes := #[]
  staticTypes := #[]
  resolved := #[]
  callSites := []
  init := .initialized
  statics := none
  mirror := none

def pool0 : Array CpInfo := pool [(5, u "<init>"), (0, u "()V"), (1, .class_ 10), (1, u "java/lang/Object"), (0, u "getClass"), (0, u "()Ljava/lang/Class;")] 111

def k0c0 : Code := { maxStack := 0, maxLocals := 1, code := object_method_1_code, exceptionTable := #[], attributes := #[] }
def k0m0 : Method := { name := "<init>", desc := "()V", sig := { parameters := [], returnType := none }, accessFlags := 1, code := some k0c0 }
def k0m1 : Method := { name := "getClass", desc := "()Ljava/lang/Class;", sig := { parameters := [], returnType := some (.object "java/lang/Class") }, accessFlags := 273, code := none }
/-- java/lang/Object -/
def k0 : Class := { plain "java/lang/Object" none with
  accessFlags := 33
  interfaces := #[]
  cf := some (fileOf pool0 8 #[] #[{ accessFlags := 1, nameIndex := 5, descriptorIndex := 6, attributes := #[] }, { accessFlags := 273, nameIndex := 11, descriptorIndex := 12, attributes := #[] }] 33 0 #[] #[])
  fields := #[]
  methods := #[k0m0, k0m1]
  instanceTypes := #[]
  staticTypes := #[]
  resolved := Array.replicate 124 none
  statics := none }

def pool1 : Array CpInfo := pool [(2, .class_ 4), (0, .nameAndType 5 6), (0, u "java/lang/Object"), (0, u "<init>"), (0, u "()V"), (0, .methodref 8 9), (0, .class_ 10), (0, .nameAndType 11 12), (0, u "java/lang/String"), (0, u "valueOf"), (0, u "(C)Ljava/lang/String;"), (0, .class_ 14), (0, u "java/util/ArrayList"), (0, .methodref 13 3), (0, .class_ 17), (0, u "com/example/arcrover/arcrover/Transition"), (0, .methodref 16 19), (0, .nameAndType 5 20), (0, u "(Ljava/lang/String;Ljava/lang/String;Ljava/lang/String;Ljava/lang/String;)V"), (0, .interfaceMethodref 22 23), (0, .class_ 24), (0, .nameAndType 25 26), (0, u "java/util/List"), (0, u "add"), (0, u "(Ljava/lang/Object;)Z"), (0, .methodref 28 29), (0, .class_ 30), (0, .nameAndType 11 31), (0, u "java/lang/Long"), (0, u "(J)Ljava/lang/Long;"), (0, .class_ 33), (0, u "com/example/arcrover/arcrover/Exploration"), (0, .class_ 35), (0, u "com/example/arcrover/arcrover/StateMachine"), (0, .methodref 34 37), (0, .nameAndType 5 38), (0, u "(Ljava/lang/String;Ljava/util/List;)V"), (0, .methodref 32 40), (0, .nameAndType 5 41), (0, u "(Lcom/example/arcrover/arcrover/StateMachine;IIJJLjava/util/List;Lcom/example/arcrover/arcrover/Verdict;Lcom/example/arcrover/arcrover/Witness;Ljava/util/List;)V"), (0, .methodref 32 43), (0, .nameAndType 44 45), (0, u "transitions"), (0, u "()I"), (0, .class_ 47), (0, u "com/example/arcrover/arcrover/ExplorationTransitionsPinLaw"), (2, u "law"), (0, u "(IIIIJJ)Z")] 3

def k1m0 : Method := { name := "<init>", desc := "()V", sig := { parameters := [], returnType := none }, accessFlags := 1, code := none }
def k1c1 : Code := { maxStack := 14, maxLocals := 17, code := code, exceptionTable := #[], attributes := #[] }
def k1m1 : Method := { name := "law", desc := "(IIIIJJ)Z", sig := { parameters := [.int, .int, .int, .int, .long, .long], returnType := some .boolean }, accessFlags := 9, code := some k1c1 }
/-- com/example/arcrover/arcrover/ExplorationTransitionsPinLaw -/
def k1 : Class := { plain "com/example/arcrover/arcrover/ExplorationTransitionsPinLaw" (some 0) with
  accessFlags := 49
  interfaces := #[]
  cf := some (fileOf pool1 46 #[] #[{ accessFlags := 1, nameIndex := 5, descriptorIndex := 6, attributes := #[] }, { accessFlags := 9, nameIndex := 50, descriptorIndex := 51, attributes := #[] }] 49 2 #[] #[])
  fields := #[]
  methods := #[k1m0, k1m1]
  instanceTypes := #[]
  staticTypes := #[]
  resolved := Array.replicate 55 none
  statics := none }

def pool2 : Array CpInfo := pool [(1, .class_ 2), (0, u "java/io/Serializable"), (0, .class_ 4), (0, u "java/lang/Object")] 2

/-- java/io/Serializable -/
def k2 : Class := { plain "java/io/Serializable" (some 0) with
  accessFlags := 1537
  interfaces := #[]
  cf := some (fileOf pool2 1 #[] #[] 1537 3 #[] #[])
  fields := #[]
  methods := #[]
  instanceTypes := #[]
  staticTypes := #[]
  resolved := Array.replicate 7 none
  statics := none }

def pool3 : Array CpInfo := pool [(1, .class_ 2), (0, u "java/lang/Comparable"), (0, .class_ 4), (0, u "java/lang/Object")] 7

/-- java/lang/Comparable -/
def k3 : Class := { plain "java/lang/Comparable" (some 0) with
  accessFlags := 1537
  interfaces := #[]
  cf := some (fileOf pool3 1 #[] #[] 1537 3 #[] #[])
  fields := #[]
  methods := #[]
  instanceTypes := #[]
  staticTypes := #[]
  resolved := Array.replicate 12 none
  statics := none }

def pool4 : Array CpInfo := pool [(2, .class_ 4), (1, u "java/lang/CharSequence"), (42, .class_ 48), (0, u "java/lang/CharSequence$1CodePointIterator"), (10, .class_ 60), (0, u "java/lang/CharSequence$1CharIterator"), (5, .class_ 67), (0, u "java/lang/Object")] 63

/-- java/lang/CharSequence -/
def k4 : Class := { plain "java/lang/CharSequence" (some 0) with
  accessFlags := 1537
  interfaces := #[]
  cf := some (fileOf pool4 2 #[.nestMembers #[47, 59]] #[] 1537 66 #[] #[])
  fields := #[]
  methods := #[]
  instanceTypes := #[]
  staticTypes := #[]
  resolved := Array.replicate 131 none
  statics := none }

def pool5 : Array CpInfo := pool [(1, .class_ 2), (0, u "java/lang/constant/Constable"), (0, .class_ 4), (0, u "java/lang/Object")] 6

/-- java/lang/constant/Constable -/
def k5 : Class := { plain "java/lang/constant/Constable" (some 0) with
  accessFlags := 1537
  interfaces := #[]
  cf := some (fileOf pool5 1 #[] #[] 1537 3 #[] #[])
  fields := #[]
  methods := #[]
  instanceTypes := #[]
  staticTypes := #[]
  resolved := Array.replicate 11 none
  statics := none }

def pool6 : Array CpInfo := pool [(1, .class_ 2), (0, u "java/lang/constant/ConstantDesc"), (0, .class_ 4), (0, u "java/lang/Object")] 32

/-- java/lang/constant/ConstantDesc -/
def k6 : Class := { plain "java/lang/constant/ConstantDesc" (some 0) with
  accessFlags := 1537
  interfaces := #[]
  cf := some (fileOf pool6 1 #[] #[] 1537 3 #[] #[])
  fields := #[]
  methods := #[]
  instanceTypes := #[]
  staticTypes := #[]
  resolved := Array.replicate 37 none
  statics := none }

def pool7 : Array CpInfo := pool [(1, .methodref 2 3), (0, .class_ 4), (0, .nameAndType 5 6), (0, u "java/lang/Object"), (0, u "<init>"), (0, u "()V"), (2, .fieldref 10 11), (0, .class_ 12), (0, .nameAndType 13 14), (0, u "java/lang/String"), (0, u "value"), (0, u "[B"), (0, .fieldref 10 16), (0, .nameAndType 17 18), (0, u "coder"), (0, u "B"), (2, u "hash"), (0, u "I"), (2, u "hashIsZero"), (0, u "Z"), (11, .fieldref 10 39), (0, .nameAndType 40 26), (0, u "COMPACT_STRINGS"), (12, u "toBytes"), (53, .class_ 109), (1, u "java/lang/StringLatin1"), (99, .methodref 10 210), (0, .nameAndType 5 211), (0, u "([BB)V"), (157, u "(C)Z"), (205, .class_ 576), (0, u "java/lang/CharSequence"), (22, u "CASE_INSENSITIVE_ORDER"), (0, u "Ljava/util/Comparator;"), (181, u "valueOf"), (0, u "(C)Ljava/lang/String;"), (231, .methodref 107 1016), (0, .nameAndType 1017 369), (0, u "canEncode"), (0, .methodref 107 1019), (0, .nameAndType 53 1020), (0, u "(C)[B"), (80, u "serialPersistentFields"), (0, u "[Ljava/io/ObjectStreamField;"), (0, .class_ 1104), (0, u "java/lang/String$CaseInsensitiveComparator"), (1, .class_ 1107), (0, u "java/io/Serializable"), (0, .class_ 1109), (0, u "java/lang/Comparable"), (0, .class_ 1111), (0, u "java/lang/constant/Constable"), (0, .class_ 1113), (0, u "java/lang/constant/ConstantDesc"), (2, u "serialVersionUID"), (0, u "J"), (3, u "REPL"), (0, u "C"), (2, u "LATIN1"), (1, u "UTF16")] 323

def k7m0 : Method := { name := "<init>", desc := "()V", sig := { parameters := [], returnType := none }, accessFlags := 1, code := none }
def k7c1 : Code := { maxStack := 4, maxLocals := 1, code := jdk_42_method_139_code, exceptionTable := #[], attributes := #[] }
def k7m1 : Method := { name := "valueOf", desc := "(C)Ljava/lang/String;", sig := { parameters := [.char], returnType := some (.object "java/lang/String") }, accessFlags := 9, code := some k7c1 }
def k7c2 : Code := { maxStack := 2, maxLocals := 3, code := jdk_42_method_151_code, exceptionTable := #[], attributes := #[] }
def k7m2 : Method := { name := "<init>", desc := "([BB)V", sig := { parameters := [(.array .byte), .byte], returnType := none }, accessFlags := 0, code := some k7c2 }
/-- java/lang/String -/
def k7 : Class := { plain "java/lang/String" (some 0) with
  accessFlags := 49
  interfaces := #[2, 3, 4, 5, 6]
  cf := some (fileOf pool7 10 #[.nestMembers #[1103]] #[{ accessFlags := 1, nameIndex := 5, descriptorIndex := 6, attributes := #[] }, { accessFlags := 9, nameIndex := 782, descriptorIndex := 783, attributes := #[] }, { accessFlags := 0, nameIndex := 5, descriptorIndex := 211, attributes := #[] }] 49 2 #[1106, 1108, 575, 1110, 1112] #[{ accessFlags := 18, nameIndex := 13, descriptorIndex := 14, attributes := #[] }, { accessFlags := 18, nameIndex := 17, descriptorIndex := 18, attributes := #[] }, { accessFlags := 2, nameIndex := 21, descriptorIndex := 22, attributes := #[] }, { accessFlags := 2, nameIndex := 25, descriptorIndex := 26, attributes := #[] }, { accessFlags := 26, nameIndex := 1116, descriptorIndex := 1117, attributes := #[] }, { accessFlags := 24, nameIndex := 40, descriptorIndex := 26, attributes := #[] }, { accessFlags := 26, nameIndex := 1101, descriptorIndex := 1102, attributes := #[] }, { accessFlags := 26, nameIndex := 1121, descriptorIndex := 1122, attributes := #[] }, { accessFlags := 25, nameIndex := 599, descriptorIndex := 600, attributes := #[] }, { accessFlags := 24, nameIndex := 1125, descriptorIndex := 18, attributes := #[] }, { accessFlags := 24, nameIndex := 1127, descriptorIndex := 18, attributes := #[] }])
  fields := #[{ name := "value", type := (.array .byte), accessFlags := 18, slot := 0, constantValue := 0 }, { name := "coder", type := .byte, accessFlags := 18, slot := 1, constantValue := 0 }, { name := "hash", type := .int, accessFlags := 2, slot := 2, constantValue := 0 }, { name := "hashIsZero", type := .boolean, accessFlags := 2, slot := 3, constantValue := 0 }, { name := "serialVersionUID", type := .long, accessFlags := 26, slot := 0, constantValue := 0 }, { name := "COMPACT_STRINGS", type := .boolean, accessFlags := 24, slot := 1, constantValue := 0 }, { name := "serialPersistentFields", type := (.array (.object "java/io/ObjectStreamField")), accessFlags := 26, slot := 2, constantValue := 0 }, { name := "REPL", type := .char, accessFlags := 26, slot := 3, constantValue := 0 }, { name := "CASE_INSENSITIVE_ORDER", type := (.object "java/util/Comparator"), accessFlags := 25, slot := 4, constantValue := 0 }, { name := "LATIN1", type := .byte, accessFlags := 24, slot := 5, constantValue := 0 }, { name := "UTF16", type := .byte, accessFlags := 24, slot := 6, constantValue := 0 }]
  methods := #[k7m0, k7m1, k7m2]
  instanceTypes := #[(.array .byte), .byte, .int, .boolean]
  staticTypes := #[.long, .boolean, (.array (.object "java/io/ObjectStreamField")), .char, (.object "java/util/Comparator"), .byte, .byte]
  resolved := Array.replicate 1451 none
  statics := some 0 }

def pool8 : Array CpInfo := pool [(4, .class_ 6), (1, u "java/lang/Object"), (0, u "<init>"), (0, u "()V"), (5, .class_ 16), (1, u "java/lang/StringLatin1"), (73, u "canEncode"), (14, u "(C)Z"), (15, u "$assertionsDisabled"), (0, u "Z"), (98, .class_ 223), (1, u "java/lang/StringLatin1$LinesSpliterator"), (156, u "toBytes"), (1, u "(C)[B"), (7, .class_ 391), (0, u "java/lang/StringLatin1$CharsSpliterator")] 3

def k8m0 : Method := { name := "<init>", desc := "()V", sig := { parameters := [], returnType := none }, accessFlags := 0, code := none }
def k8c1 : Code := { maxStack := 2, maxLocals := 1, code := jdk_43_method_3_code, exceptionTable := #[], attributes := #[] }
def k8m1 : Method := { name := "canEncode", desc := "(C)Z", sig := { parameters := [.char], returnType := some .boolean }, accessFlags := 9, code := some k8c1 }
def k8c2 : Code := { maxStack := 4, maxLocals := 1, code := jdk_43_method_46_code, exceptionTable := #[], attributes := #[] }
def k8m2 : Method := { name := "toBytes", desc := "(C)[B", sig := { parameters := [.char], returnType := some (.array .byte) }, accessFlags := 9, code := some k8c2 }
/-- java/lang/StringLatin1 -/
def k8 : Class := { plain "java/lang/StringLatin1" (some 0) with
  accessFlags := 48
  interfaces := #[]
  cf := some (fileOf pool8 14 #[.nestMembers #[390, 221]] #[{ accessFlags := 0, nameIndex := 7, descriptorIndex := 8, attributes := #[] }, { accessFlags := 9, nameIndex := 90, descriptorIndex := 105, attributes := #[] }, { accessFlags := 9, nameIndex := 380, descriptorIndex := 382, attributes := #[] }] 48 4 #[] #[{ accessFlags := 4120, nameIndex := 121, descriptorIndex := 122, attributes := #[] }])
  fields := #[{ name := "$assertionsDisabled", type := .boolean, accessFlags := 4120, slot := 0, constantValue := 0 }]
  methods := #[k8m0, k8m1, k8m2]
  instanceTypes := #[]
  staticTypes := #[.boolean]
  resolved := Array.replicate 395 none
  statics := none }

def pool9 : Array CpInfo := pool [(8, .class_ 10), (1, u "java/lang/Iterable"), (24, .class_ 36), (0, u "java/lang/Object")] 25

/-- java/lang/Iterable -/
def k9 : Class := { plain "java/lang/Iterable" (some 0) with
  accessFlags := 1537
  interfaces := #[]
  cf := some (fileOf pool9 8 #[] #[] 1537 35 #[] #[])
  fields := #[]
  methods := #[]
  instanceTypes := #[]
  staticTypes := #[]
  resolved := Array.replicate 62 none
  statics := none }

def pool10 : Array CpInfo := pool [(10, .class_ 12), (1, u "java/util/Collection"), (0, u "toArray"), (16, u "()Z"), (29, .class_ 61), (0, u "java/lang/Object"), (0, .class_ 63), (0, u "java/lang/Iterable"), (2, u "isEmpty"), (3, u "()[Ljava/lang/Object;")] 44

def k10m0 : Method := { name := "isEmpty", desc := "()Z", sig := { parameters := [], returnType := some .boolean }, accessFlags := 1025, code := none }
def k10m1 : Method := { name := "toArray", desc := "()[Ljava/lang/Object;", sig := { parameters := [], returnType := some (.array (.object "java/lang/Object")) }, accessFlags := 1025, code := none }
/-- java/util/Collection -/
def k10 : Class := { plain "java/util/Collection" (some 0) with
  accessFlags := 1537
  interfaces := #[9]
  cf := some (fileOf pool10 10 #[] #[{ accessFlags := 1025, nameIndex := 66, descriptorIndex := 30, attributes := #[] }, { accessFlags := 1025, nameIndex := 13, descriptorIndex := 70, attributes := #[] }] 1537 60 #[62] #[])
  fields := #[]
  methods := #[k10m0, k10m1]
  instanceTypes := #[]
  staticTypes := #[]
  resolved := Array.replicate 115 none
  statics := none }

def pool11 : Array CpInfo := pool [(1, .methodref 2 3), (0, .class_ 4), (0, .nameAndType 5 6), (0, u "java/lang/Object"), (0, u "<init>"), (0, u "()V"), (1, .class_ 10), (1, u "java/util/AbstractCollection"), (66, .class_ 78), (0, u "java/util/Collection")] 81

def k11c0 : Code := { maxStack := 1, maxLocals := 1, code := jdk_22_method_1_code, exceptionTable := #[], attributes := #[] }
def k11m0 : Method := { name := "<init>", desc := "()V", sig := { parameters := [], returnType := none }, accessFlags := 4, code := some k11c0 }
/-- java/util/AbstractCollection -/
def k11 : Class := { plain "java/util/AbstractCollection" (some 0) with
  accessFlags := 1057
  interfaces := #[10]
  cf := some (fileOf pool11 8 #[] #[{ accessFlags := 4, nameIndex := 5, descriptorIndex := 6, attributes := #[] }] 1057 2 #[77] #[])
  fields := #[]
  methods := #[k11m0]
  instanceTypes := #[]
  staticTypes := #[]
  resolved := Array.replicate 160 none
  statics := none }

def pool12 : Array CpInfo := pool [(8, .class_ 10), (1, u "java/util/SequencedCollection"), (15, .class_ 27), (0, u "java/lang/Object"), (0, .class_ 29), (0, u "java/util/Collection")] 27

/-- java/util/SequencedCollection -/
def k12 : Class := { plain "java/util/SequencedCollection" (some 0) with
  accessFlags := 1537
  interfaces := #[10]
  cf := some (fileOf pool12 8 #[] #[] 1537 26 #[28] #[])
  fields := #[]
  methods := #[]
  instanceTypes := #[]
  staticTypes := #[]
  resolved := Array.replicate 57 none
  statics := none }

def pool13 : Array CpInfo := pool [(8, .class_ 10), (1, u "java/util/List"), (20, u "(Ljava/lang/Object;)V"), (16, u "<init>"), (11, u "add"), (3, u "(Ljava/lang/Object;)Z"), (14, u "size"), (0, u "()I"), (7, u "of"), (1, .fieldref 91 92), (0, .class_ 93), (0, .nameAndType 94 95), (0, u "java/util/ImmutableCollections"), (0, u "EMPTY_LIST"), (0, u "Ljava/util/ImmutableCollections$ListN;"), (0, .class_ 97), (0, u "java/util/ImmutableCollections$List12"), (0, .methodref 96 99), (0, .nameAndType 48 31), (0, .methodref 96 101), (0, .nameAndType 48 102), (0, u "(Ljava/lang/Object;Ljava/lang/Object;)V"), (0, .class_ 104), (0, u "java/lang/Object"), (3, u "([Ljava/lang/Object;)Ljava/util/List;"), (0, .methodref 91 110), (0, .nameAndType 111 108), (0, u "listFromArray"), (0, .methodref 91 113), (0, .nameAndType 114 115), (0, u "listCopy"), (0, u "(Ljava/util/Collection;)Ljava/util/List;"), (3, u "()Ljava/util/List;"), (0, .class_ 121), (0, u "java/util/SequencedCollection"), (112, u "copyOf")] 16

def k13m0 : Method := { name := "size", desc := "()I", sig := { parameters := [], returnType := some .int }, accessFlags := 1025, code := none }
def k13m1 : Method := { name := "add", desc := "(Ljava/lang/Object;)Z", sig := { parameters := [(.object "java/lang/Object")], returnType := some .boolean }, accessFlags := 1025, code := none }
def k13c2 : Code := { maxStack := 1, maxLocals := 0, code := jdk_40_method_36_code, exceptionTable := #[], attributes := #[] }
def k13m2 : Method := { name := "of", desc := "()Ljava/util/List;", sig := { parameters := [], returnType := some (.object "java/util/List") }, accessFlags := 9, code := some k13c2 }
def k13c3 : Code := { maxStack := 5, maxLocals := 2, code := jdk_40_method_47_code, exceptionTable := #[], attributes := #[] }
def k13m3 : Method := { name := "of", desc := "([Ljava/lang/Object;)Ljava/util/List;", sig := { parameters := [(.array (.object "java/lang/Object"))], returnType := some (.object "java/util/List") }, accessFlags := 137, code := some k13c3 }
def k13c4 : Code := { maxStack := 1, maxLocals := 1, code := jdk_40_method_48_code, exceptionTable := #[], attributes := #[] }
def k13m4 : Method := { name := "copyOf", desc := "(Ljava/util/Collection;)Ljava/util/List;", sig := { parameters := [(.object "java/util/Collection")], returnType := some (.object "java/util/List") }, accessFlags := 9, code := some k13c4 }
/-- java/util/List -/
def k13 : Class := { plain "java/util/List" (some 0) with
  accessFlags := 1537
  interfaces := #[12]
  cf := some (fileOf pool13 8 #[] #[{ accessFlags := 1025, nameIndex := 79, descriptorIndex := 80, attributes := #[] }, { accessFlags := 1025, nameIndex := 60, descriptorIndex := 64, attributes := #[] }, { accessFlags := 9, nameIndex := 88, descriptorIndex := 119, attributes := #[] }, { accessFlags := 137, nameIndex := 88, descriptorIndex := 108, attributes := #[] }, { accessFlags := 9, nameIndex := 234, descriptorIndex := 115, attributes := #[] }] 1537 103 #[120] #[])
  fields := #[]
  methods := #[k13m0, k13m1, k13m2, k13m3, k13m4]
  instanceTypes := #[]
  staticTypes := #[]
  resolved := Array.replicate 251 none
  statics := none }

def pool14 : Array CpInfo := pool [(1, .methodref 2 3), (0, .class_ 4), (0, .nameAndType 5 6), (0, u "java/util/AbstractCollection"), (0, u "<init>"), (0, u "()V"), (0, .fieldref 8 9), (0, .class_ 10), (0, .nameAndType 11 12), (0, u "java/util/AbstractList"), (0, u "modCount"), (0, u "I"), (64, .class_ 78), (0, u "java/util/AbstractList$Itr"), (3, .class_ 83), (0, u "java/util/AbstractList$ListItr"), (9, .class_ 94), (0, u "java/util/AbstractList$RandomAccessSubList"), (3, .class_ 99), (0, u "java/util/AbstractList$SubList"), (33, .class_ 134), (0, u "java/util/List"), (73, .class_ 209), (0, u "java/util/AbstractList$SubList$1"), (0, .class_ 211), (0, u "java/util/AbstractList$RandomAccessSpliterator")] 6

def k14c0 : Code := { maxStack := 2, maxLocals := 1, code := jdk_39_method_1_code, exceptionTable := #[], attributes := #[] }
def k14m0 : Method := { name := "<init>", desc := "()V", sig := { parameters := [], returnType := none }, accessFlags := 4, code := some k14c0 }
/-- java/util/AbstractList -/
def k14 : Class := { plain "java/util/AbstractList" (some 11) with
  accessFlags := 1057
  interfaces := #[13]
  cf := some (fileOf pool14 8 #[.nestMembers #[93, 98, 208, 210, 82, 77]] #[{ accessFlags := 4, nameIndex := 5, descriptorIndex := 6, attributes := #[] }] 1057 2 #[133] #[{ accessFlags := 132, nameIndex := 11, descriptorIndex := 12, attributes := #[] }])
  fields := #[{ name := "modCount", type := .int, accessFlags := 132, slot := 0, constantValue := 0 }]
  methods := #[k14m0]
  instanceTypes := #[.int]
  staticTypes := #[]
  resolved := Array.replicate 218 none
  statics := none }

def pool15 : Array CpInfo := pool [(1, .class_ 2), (0, u "java/util/RandomAccess"), (0, .class_ 4), (0, u "java/lang/Object")] 2

/-- java/util/RandomAccess -/
def k15 : Class := { plain "java/util/RandomAccess" (some 0) with
  accessFlags := 1537
  interfaces := #[]
  cf := some (fileOf pool15 1 #[] #[] 1537 3 #[] #[])
  fields := #[]
  methods := #[]
  instanceTypes := #[]
  staticTypes := #[]
  resolved := Array.replicate 7 none
  statics := none }

def pool16 : Array CpInfo := pool [(1, .class_ 2), (0, u "java/lang/Cloneable"), (0, .class_ 4), (0, u "java/lang/Object")] 2

/-- java/lang/Cloneable -/
def k16 : Class := { plain "java/lang/Cloneable" (some 0) with
  accessFlags := 1537
  interfaces := #[]
  cf := some (fileOf pool16 1 #[] #[] 1537 3 #[] #[])
  fields := #[]
  methods := #[]
  instanceTypes := #[]
  staticTypes := #[]
  resolved := Array.replicate 7 none
  statics := none }

def pool17 : Array CpInfo := pool [(1, .methodref 2 3), (0, .class_ 4), (0, .nameAndType 5 6), (0, u "java/util/AbstractList"), (0, u "<init>"), (0, u "()V"), (0, .class_ 8), (0, u "java/lang/Object"), (0, .fieldref 10 11), (0, .class_ 12), (0, .nameAndType 13 14), (0, u "java/util/ArrayList"), (0, u "elementData"), (0, u "[Ljava/lang/Object;"), (2, u "EMPTY_ELEMENTDATA"), (21, .fieldref 10 40), (0, .nameAndType 41 14), (0, u "DEFAULTCAPACITY_EMPTY_ELEMENTDATA"), (4, u "toArray"), (0, u "()[Ljava/lang/Object;"), (0, .fieldref 10 49), (0, .nameAndType 50 51), (0, u "size"), (0, u "I"), (6, .class_ 60), (1, u "java/util/Arrays"), (0, u "copyOf"), (1, .fieldref 10 64), (0, .nameAndType 65 51), (0, u "modCount"), (0, .methodref 58 67), (0, .nameAndType 61 68), (0, u "([Ljava/lang/Object;I)[Ljava/lang/Object;"), (0, .methodref 10 70), (0, .nameAndType 71 72), (0, u "grow"), (0, u "(I)[Ljava/lang/Object;"), (6, .methodref 80 81), (0, .class_ 82), (0, .nameAndType 83 84), (0, u "java/lang/Math"), (0, u "max"), (0, u "(II)I"), (11, u "(Ljava/lang/Object;)Z"), (32, .methodref 10 130), (0, .nameAndType 71 47), (0, .methodref 10 132), (0, .nameAndType 133 134), (0, u "add"), (0, u "(Ljava/lang/Object;[Ljava/lang/Object;I)V"), (13, .class_ 149), (0, u "java/util/List"), (23, u "()Z"), (88, .class_ 263), (0, u "java/util/ArrayList$ListItr"), (3, .class_ 268), (0, u "java/util/ArrayList$Itr"), (7, .class_ 277), (0, u "java/util/ArrayList$SubList"), (12, .class_ 291), (0, u "java/util/ArrayList$ArrayListSpliterator"), (37, .class_ 330), (0, u "java/util/RandomAccess"), (0, .class_ 332), (0, u "java/lang/Cloneable"), (0, .class_ 334), (0, u "java/io/Serializable"), (0, u "serialVersionUID"), (0, u "J"), (3, u "DEFAULT_CAPACITY"), (22, u "isEmpty"), (136, .class_ 501), (0, u "java/util/ArrayList$SubList$2"), (0, .class_ 503), (0, u "java/util/ArrayList$SubList$1")] 5

def k17c0 : Code := { maxStack := 2, maxLocals := 1, code := jdk_38_method_2_code, exceptionTable := #[], attributes := #[] }
def k17m0 : Method := { name := "<init>", desc := "()V", sig := { parameters := [], returnType := none }, accessFlags := 1, code := some k17c0 }
def k17c1 : Code := { maxStack := 4, maxLocals := 4, code := jdk_38_method_6_code, exceptionTable := #[], attributes := #[] }
def k17m1 : Method := { name := "grow", desc := "(I)[Ljava/lang/Object;", sig := { parameters := [.int], returnType := some (.array (.object "java/lang/Object")) }, accessFlags := 2, code := some k17c1 }
def k17c2 : Code := { maxStack := 3, maxLocals := 1, code := jdk_38_method_7_code, exceptionTable := #[], attributes := #[] }
def k17m2 : Method := { name := "grow", desc := "()[Ljava/lang/Object;", sig := { parameters := [], returnType := some (.array (.object "java/lang/Object")) }, accessFlags := 2, code := some k17c2 }
def k17c3 : Code := { maxStack := 1, maxLocals := 1, code := jdk_38_method_9_code, exceptionTable := #[], attributes := #[] }
def k17m3 : Method := { name := "isEmpty", desc := "()Z", sig := { parameters := [], returnType := some .boolean }, accessFlags := 1, code := some k17c3 }
def k17c4 : Code := { maxStack := 2, maxLocals := 1, code := jdk_38_method_16_code, exceptionTable := #[], attributes := #[] }
def k17m4 : Method := { name := "toArray", desc := "()[Ljava/lang/Object;", sig := { parameters := [], returnType := some (.array (.object "java/lang/Object")) }, accessFlags := 1, code := some k17c4 }
def k17c5 : Code := { maxStack := 3, maxLocals := 4, code := jdk_38_method_24_code, exceptionTable := #[], attributes := #[] }
def k17m5 : Method := { name := "add", desc := "(Ljava/lang/Object;[Ljava/lang/Object;I)V", sig := { parameters := [(.object "java/lang/Object"), (.array (.object "java/lang/Object")), .int], returnType := none }, accessFlags := 2, code := some k17c5 }
def k17c6 : Code := { maxStack := 4, maxLocals := 2, code := jdk_38_method_25_code, exceptionTable := #[], attributes := #[] }
def k17m6 : Method := { name := "add", desc := "(Ljava/lang/Object;)Z", sig := { parameters := [(.object "java/lang/Object")], returnType := some .boolean }, accessFlags := 1, code := some k17c6 }
/-- java/util/ArrayList -/
def k17 : Class := { plain "java/util/ArrayList" (some 14) with
  accessFlags := 33
  interfaces := #[13, 15, 16, 2]
  cf := some (fileOf pool17 10 #[.nestMembers #[290, 276, 500, 502, 262, 267]] #[{ accessFlags := 1, nameIndex := 5, descriptorIndex := 6, attributes := #[] }, { accessFlags := 2, nameIndex := 71, descriptorIndex := 72, attributes := #[] }, { accessFlags := 2, nameIndex := 71, descriptorIndex := 47, attributes := #[] }, { accessFlags := 1, nameIndex := 363, descriptorIndex := 173, attributes := #[] }, { accessFlags := 1, nameIndex := 46, descriptorIndex := 47, attributes := #[] }, { accessFlags := 2, nameIndex := 133, descriptorIndex := 134, attributes := #[] }, { accessFlags := 1, nameIndex := 133, descriptorIndex := 96, attributes := #[] }] 33 2 #[148, 329, 331, 333] #[{ accessFlags := 26, nameIndex := 335, descriptorIndex := 336, attributes := #[] }, { accessFlags := 26, nameIndex := 340, descriptorIndex := 51, attributes := #[] }, { accessFlags := 26, nameIndex := 17, descriptorIndex := 14, attributes := #[] }, { accessFlags := 26, nameIndex := 41, descriptorIndex := 14, attributes := #[] }, { accessFlags := 128, nameIndex := 13, descriptorIndex := 14, attributes := #[] }, { accessFlags := 2, nameIndex := 50, descriptorIndex := 51, attributes := #[] }])
  fields := #[{ name := "serialVersionUID", type := .long, accessFlags := 26, slot := 0, constantValue := 0 }, { name := "DEFAULT_CAPACITY", type := .int, accessFlags := 26, slot := 1, constantValue := 0 }, { name := "EMPTY_ELEMENTDATA", type := (.array (.object "java/lang/Object")), accessFlags := 26, slot := 2, constantValue := 0 }, { name := "DEFAULTCAPACITY_EMPTY_ELEMENTDATA", type := (.array (.object "java/lang/Object")), accessFlags := 26, slot := 3, constantValue := 0 }, { name := "elementData", type := (.array (.object "java/lang/Object")), accessFlags := 128, slot := 1, constantValue := 0 }, { name := "size", type := .int, accessFlags := 2, slot := 2, constantValue := 0 }]
  methods := #[k17m0, k17m1, k17m2, k17m3, k17m4, k17m5, k17m6]
  instanceTypes := #[.int, (.array (.object "java/lang/Object")), .int]
  staticTypes := #[.long, .int, (.array (.object "java/lang/Object")), (.array (.object "java/lang/Object"))]
  resolved := Array.replicate 509 none
  statics := some 1 }

def pool18 : Array CpInfo := pool [(1, .methodref 2 3), (0, .class_ 4), (0, .nameAndType 5 6), (0, u "java/lang/Object"), (0, u "<init>"), (0, u "()V"), (1, .class_ 10), (1, u "java/lang/Number"), (2, .class_ 14), (0, u "java/io/Serializable"), (0, u "serialVersionUID"), (0, u "J")] 20

def k18c0 : Code := { maxStack := 1, maxLocals := 1, code := jdk_18_method_1_code, exceptionTable := #[], attributes := #[] }
def k18m0 : Method := { name := "<init>", desc := "()V", sig := { parameters := [], returnType := none }, accessFlags := 1, code := some k18c0 }
/-- java/lang/Number -/
def k18 : Class := { plain "java/lang/Number" (some 0) with
  accessFlags := 1057
  interfaces := #[2]
  cf := some (fileOf pool18 8 #[] #[{ accessFlags := 1, nameIndex := 5, descriptorIndex := 6, attributes := #[] }] 1057 2 #[13] #[{ accessFlags := 26, nameIndex := 15, descriptorIndex := 16, attributes := #[] }])
  fields := #[{ name := "serialVersionUID", type := .long, accessFlags := 26, slot := 0, constantValue := 0 }]
  methods := #[k18m0]
  instanceTypes := #[]
  staticTypes := #[.long]
  resolved := Array.replicate 37 none
  statics := none }

def pool19 : Array CpInfo := pool [(1, .class_ 2), (0, u "java/lang/Long"), (55, .nameAndType 59 60), (0, u "<init>"), (0, u "()V"), (24, u "valueOf"), (143, u "(J)Ljava/lang/Long;"), (0, .long 18446744073709551488), (1, .long 127), (1, .fieldref 235 236), (0, .class_ 237), (0, .nameAndType 238 239), (0, u "java/lang/Long$LongCache"), (0, u "cache"), (0, u "[Ljava/lang/Long;"), (0, .methodref 1 241), (0, .nameAndType 59 242), (0, u "(J)V"), (27, .methodref 271 58), (0, .class_ 272), (0, u "java/lang/Number"), (0, .fieldref 1 274), (0, .nameAndType 275 276), (0, u "value"), (0, u "J"), (84, u "TYPE"), (0, u "Ljava/lang/Class;"), (0, .class_ 364), (0, u "java/lang/Comparable"), (0, .class_ 366), (0, u "java/lang/constant/Constable"), (0, .class_ 368), (0, u "java/lang/constant/ConstantDesc"), (0, u "MIN_VALUE"), (1, u "MAX_VALUE"), (4, u "SIZE"), (0, u "I"), (1, u "BYTES"), (1, u "serialVersionUID")] 142

def k19c0 : Code := { maxStack := 4, maxLocals := 3, code := jdk_35_method_24_code, exceptionTable := #[], attributes := #[] }
def k19m0 : Method := { name := "valueOf", desc := "(J)Ljava/lang/Long;", sig := { parameters := [.long], returnType := some (.object "java/lang/Long") }, accessFlags := 9, code := some k19c0 }
def k19c1 : Code := { maxStack := 3, maxLocals := 3, code := jdk_35_method_26_code, exceptionTable := #[], attributes := #[] }
def k19m1 : Method := { name := "<init>", desc := "(J)V", sig := { parameters := [.long], returnType := none }, accessFlags := 1, code := some k19c1 }
/-- java/lang/Long -/
def k19 : Class := { plain "java/lang/Long" (some 18) with
  accessFlags := 49
  interfaces := #[3, 5, 6]
  cf := some (fileOf pool19 1 #[.nestMembers #[235]] #[{ accessFlags := 9, nameIndex := 85, descriptorIndex := 229, attributes := #[] }, { accessFlags := 1, nameIndex := 59, descriptorIndex := 242, attributes := #[] }] 49 271 #[363, 365, 367] #[{ accessFlags := 25, nameIndex := 369, descriptorIndex := 276, attributes := #[] }, { accessFlags := 25, nameIndex := 371, descriptorIndex := 276, attributes := #[] }, { accessFlags := 25, nameIndex := 361, descriptorIndex := 362, attributes := #[] }, { accessFlags := 18, nameIndex := 275, descriptorIndex := 276, attributes := #[] }, { accessFlags := 25, nameIndex := 376, descriptorIndex := 377, attributes := #[] }, { accessFlags := 25, nameIndex := 379, descriptorIndex := 377, attributes := #[] }, { accessFlags := 26, nameIndex := 381, descriptorIndex := 276, attributes := #[] }])
  fields := #[{ name := "MIN_VALUE", type := .long, accessFlags := 25, slot := 0, constantValue := 0 }, { name := "MAX_VALUE", type := .long, accessFlags := 25, slot := 1, constantValue := 0 }, { name := "TYPE", type := (.object "java/lang/Class"), accessFlags := 25, slot := 2, constantValue := 0 }, { name := "value", type := .long, accessFlags := 18, slot := 0, constantValue := 0 }, { name := "SIZE", type := .int, accessFlags := 25, slot := 3, constantValue := 0 }, { name := "BYTES", type := .int, accessFlags := 25, slot := 4, constantValue := 0 }, { name := "serialVersionUID", type := .long, accessFlags := 26, slot := 5, constantValue := 0 }]
  methods := #[k19m0, k19m1]
  instanceTypes := #[.long]
  staticTypes := #[.long, .long, (.object "java/lang/Class"), .int, .int, .long]
  resolved := Array.replicate 524 none
  statics := none }

def pool20 : Array CpInfo := pool [(1, .class_ 2), (0, u "java/lang/Math"), (1, .class_ 6), (1, u "java/lang/Object"), (0, u "<init>"), (0, u "()V"), (89, .class_ 100), (1, u "java/lang/Math$RandomNumberGeneratorHolder"), (71, u "negativeZeroFloatBits"), (0, u "J"), (2, u "negativeZeroDoubleBits"), (21, u "max"), (2, u "min"), (43, u "$assertionsDisabled"), (0, u "Z"), (88, u "(II)I"), (2, u "twoToTheDoubleScaleDown"), (0, u "D"), (4, u "twoToTheDoubleScaleUp"), (9, u "E"), (3, u "PI"), (2, u "TAU"), (2, u "DEGREES_TO_RADIANS"), (0, u "RADIANS_TO_DEGREES")] 94

def k20m0 : Method := { name := "<init>", desc := "()V", sig := { parameters := [], returnType := none }, accessFlags := 2, code := none }
def k20c1 : Code := { maxStack := 2, maxLocals := 2, code := jdk_29_method_65_code, exceptionTable := #[], attributes := #[] }
def k20m1 : Method := { name := "max", desc := "(II)I", sig := { parameters := [.int, .int], returnType := some .int }, accessFlags := 9, code := some k20c1 }
def k20c2 : Code := { maxStack := 2, maxLocals := 2, code := jdk_29_method_69_code, exceptionTable := #[], attributes := #[] }
def k20m2 : Method := { name := "min", desc := "(II)I", sig := { parameters := [.int, .int], returnType := some .int }, accessFlags := 9, code := some k20c2 }
/-- java/lang/Math -/
def k20 : Class := { plain "java/lang/Math" (some 0) with
  accessFlags := 49
  interfaces := #[]
  cf := some (fileOf pool20 1 #[.nestMembers #[98]] #[{ accessFlags := 2, nameIndex := 7, descriptorIndex := 8, attributes := #[] }, { accessFlags := 9, nameIndex := 198, descriptorIndex := 335, attributes := #[] }, { accessFlags := 9, nameIndex := 201, descriptorIndex := 335, attributes := #[] }] 49 4 #[] #[{ accessFlags := 25, nameIndex := 354, descriptorIndex := 339, attributes := #[] }, { accessFlags := 25, nameIndex := 358, descriptorIndex := 339, attributes := #[] }, { accessFlags := 25, nameIndex := 361, descriptorIndex := 339, attributes := #[] }, { accessFlags := 26, nameIndex := 364, descriptorIndex := 339, attributes := #[] }, { accessFlags := 26, nameIndex := 365, descriptorIndex := 339, attributes := #[] }, { accessFlags := 26, nameIndex := 172, descriptorIndex := 173, attributes := #[] }, { accessFlags := 26, nameIndex := 176, descriptorIndex := 173, attributes := #[] }, { accessFlags := 8, nameIndex := 344, descriptorIndex := 339, attributes := #[] }, { accessFlags := 8, nameIndex := 338, descriptorIndex := 339, attributes := #[] }, { accessFlags := 4120, nameIndex := 245, descriptorIndex := 246, attributes := #[] }])
  fields := #[{ name := "E", type := .double, accessFlags := 25, slot := 0, constantValue := 0 }, { name := "PI", type := .double, accessFlags := 25, slot := 1, constantValue := 0 }, { name := "TAU", type := .double, accessFlags := 25, slot := 2, constantValue := 0 }, { name := "DEGREES_TO_RADIANS", type := .double, accessFlags := 26, slot := 3, constantValue := 0 }, { name := "RADIANS_TO_DEGREES", type := .double, accessFlags := 26, slot := 4, constantValue := 0 }, { name := "negativeZeroFloatBits", type := .long, accessFlags := 26, slot := 5, constantValue := 0 }, { name := "negativeZeroDoubleBits", type := .long, accessFlags := 26, slot := 6, constantValue := 0 }, { name := "twoToTheDoubleScaleUp", type := .double, accessFlags := 8, slot := 7, constantValue := 0 }, { name := "twoToTheDoubleScaleDown", type := .double, accessFlags := 8, slot := 8, constantValue := 0 }, { name := "$assertionsDisabled", type := .boolean, accessFlags := 4120, slot := 9, constantValue := 0 }]
  methods := #[k20m0, k20m1, k20m2]
  instanceTypes := #[]
  staticTypes := #[.double, .double, .double, .double, .double, .long, .long, .double, .double, .boolean]
  resolved := Array.replicate 460 none
  statics := none }

def pool21 : Array CpInfo := pool [(1, .methodref 2 3), (0, .class_ 4), (0, .nameAndType 5 6), (0, u "java/lang/Object"), (0, u "<init>"), (0, u "()V"), (0, .class_ 8), (0, u "java/lang/Record")] 13

def k21c0 : Code := { maxStack := 1, maxLocals := 1, code := jdk_30_method_1_code, exceptionTable := #[], attributes := #[] }
def k21m0 : Method := { name := "<init>", desc := "()V", sig := { parameters := [], returnType := none }, accessFlags := 4, code := some k21c0 }
/-- java/lang/Record -/
def k21 : Class := { plain "java/lang/Record" (some 0) with
  accessFlags := 1057
  interfaces := #[]
  cf := some (fileOf pool21 7 #[] #[{ accessFlags := 4, nameIndex := 5, descriptorIndex := 6, attributes := #[] }] 1057 2 #[] #[])
  fields := #[]
  methods := #[k21m0]
  instanceTypes := #[]
  staticTypes := #[]
  resolved := Array.replicate 22 none
  statics := none }

def pool22 : Array CpInfo := pool [(1, .methodref 2 3), (0, .class_ 4), (0, .nameAndType 5 6), (0, u "java/lang/Record"), (0, u "<init>"), (0, u "()V"), (0, .interfaceMethodref 8 9), (0, .class_ 10), (0, .nameAndType 11 12), (0, u "java/util/List"), (0, u "copyOf"), (0, u "(Ljava/util/Collection;)Ljava/util/List;"), (0, .fieldref 14 15), (0, .class_ 16), (0, .nameAndType 17 18), (0, u "com/example/arcrover/arcrover/Exploration"), (0, u "graph"), (0, u "Lcom/example/arcrover/arcrover/StateMachine;"), (0, .fieldref 14 20), (0, .nameAndType 21 22), (0, u "states"), (0, u "I"), (0, .fieldref 14 24), (0, .nameAndType 25 22), (0, u "untried"), (0, .fieldref 14 27), (0, .nameAndType 28 29), (0, u "stimuli"), (0, u "J"), (0, .fieldref 14 31), (0, .nameAndType 32 29), (0, u "restarts"), (0, .fieldref 14 34), (0, .nameAndType 35 36), (0, u "walkerStimuli"), (0, u "Ljava/util/List;"), (0, .fieldref 14 38), (0, .nameAndType 39 40), (0, u "verdict"), (0, u "Lcom/example/arcrover/arcrover/Verdict;"), (0, .fieldref 14 42), (0, .nameAndType 43 44), (0, u "witness"), (0, u "Lcom/example/arcrover/arcrover/Witness;"), (0, .fieldref 14 46), (0, .nameAndType 47 36), (0, u "rejections"), (0, .methodref 49 50), (0, .class_ 51), (0, .nameAndType 52 53), (0, u "com/example/arcrover/arcrover/StateMachine"), (0, u "transitions"), (0, u "()Ljava/util/List;"), (0, .interfaceMethodref 8 55), (0, .nameAndType 56 57), (0, u "size"), (0, u "()I"), (15, u "(Lcom/example/arcrover/arcrover/StateMachine;IIJJLjava/util/List;Lcom/example/arcrover/arcrover/Verdict;Lcom/example/arcrover/arcrover/Witness;Ljava/util/List;)V")] 40

def k22c0 : Code := { maxStack := 3, maxLocals := 12, code := prog_2_method_1_code, exceptionTable := #[], attributes := #[] }
def k22m0 : Method := { name := "<init>", desc := "(Lcom/example/arcrover/arcrover/StateMachine;IIJJLjava/util/List;Lcom/example/arcrover/arcrover/Verdict;Lcom/example/arcrover/arcrover/Witness;Ljava/util/List;)V", sig := { parameters := [(.object "com/example/arcrover/arcrover/StateMachine"), .int, .int, .long, .long, (.object "java/util/List"), (.object "com/example/arcrover/arcrover/Verdict"), (.object "com/example/arcrover/arcrover/Witness"), (.object "java/util/List")], returnType := none }, accessFlags := 1, code := some k22c0 }
def k22c1 : Code := { maxStack := 1, maxLocals := 1, code := prog_2_method_2_code, exceptionTable := #[], attributes := #[] }
def k22m1 : Method := { name := "transitions", desc := "()I", sig := { parameters := [], returnType := some .int }, accessFlags := 1, code := some k22c1 }
/-- com/example/arcrover/arcrover/Exploration -/
def k22 : Class := { plain "com/example/arcrover/arcrover/Exploration" (some 21) with
  accessFlags := 49
  interfaces := #[]
  cf := some (fileOf pool22 14 #[] #[{ accessFlags := 1, nameIndex := 5, descriptorIndex := 73, attributes := #[] }, { accessFlags := 1, nameIndex := 52, descriptorIndex := 57, attributes := #[] }] 49 2 #[] #[{ accessFlags := 18, nameIndex := 17, descriptorIndex := 18, attributes := #[] }, { accessFlags := 18, nameIndex := 21, descriptorIndex := 22, attributes := #[] }, { accessFlags := 18, nameIndex := 25, descriptorIndex := 22, attributes := #[] }, { accessFlags := 18, nameIndex := 28, descriptorIndex := 29, attributes := #[] }, { accessFlags := 18, nameIndex := 32, descriptorIndex := 29, attributes := #[] }, { accessFlags := 18, nameIndex := 35, descriptorIndex := 36, attributes := #[] }, { accessFlags := 18, nameIndex := 39, descriptorIndex := 40, attributes := #[] }, { accessFlags := 18, nameIndex := 43, descriptorIndex := 44, attributes := #[] }, { accessFlags := 18, nameIndex := 47, descriptorIndex := 36, attributes := #[] }])
  fields := #[{ name := "graph", type := (.object "com/example/arcrover/arcrover/StateMachine"), accessFlags := 18, slot := 0, constantValue := 0 }, { name := "states", type := .int, accessFlags := 18, slot := 1, constantValue := 0 }, { name := "untried", type := .int, accessFlags := 18, slot := 2, constantValue := 0 }, { name := "stimuli", type := .long, accessFlags := 18, slot := 3, constantValue := 0 }, { name := "restarts", type := .long, accessFlags := 18, slot := 4, constantValue := 0 }, { name := "walkerStimuli", type := (.object "java/util/List"), accessFlags := 18, slot := 5, constantValue := 0 }, { name := "verdict", type := (.object "com/example/arcrover/arcrover/Verdict"), accessFlags := 18, slot := 6, constantValue := 0 }, { name := "witness", type := (.object "com/example/arcrover/arcrover/Witness"), accessFlags := 18, slot := 7, constantValue := 0 }, { name := "rejections", type := (.object "java/util/List"), accessFlags := 18, slot := 8, constantValue := 0 }]
  methods := #[k22m0, k22m1]
  instanceTypes := #[(.object "com/example/arcrover/arcrover/StateMachine"), .int, .int, .long, .long, (.object "java/util/List"), (.object "com/example/arcrover/arcrover/Verdict"), (.object "com/example/arcrover/arcrover/Witness"), (.object "java/util/List")]
  staticTypes := #[]
  resolved := Array.replicate 114 none
  statics := none }

def pool23 : Array CpInfo := pool [(1, .methodref 2 3), (0, .class_ 4), (0, .nameAndType 5 6), (0, u "java/lang/Record"), (0, u "<init>"), (0, u "()V"), (0, .string 8), (0, u "initial"), (0, .methodref 10 11), (0, .class_ 12), (0, .nameAndType 13 14), (0, u "java/util/Objects"), (0, u "requireNonNull"), (0, u "(Ljava/lang/Object;Ljava/lang/String;)Ljava/lang/Object;"), (0, .interfaceMethodref 16 17), (0, .class_ 18), (0, .nameAndType 19 20), (0, u "java/util/List"), (0, u "copyOf"), (0, u "(Ljava/util/Collection;)Ljava/util/List;"), (0, .interfaceMethodref 22 23), (0, .class_ 24), (0, .nameAndType 19 25), (0, u "java/util/Map"), (0, u "(Ljava/util/Map;)Ljava/util/Map;"), (0, .interfaceMethodref 22 27), (0, .nameAndType 28 29), (0, u "isEmpty"), (0, u "()Z"), (1, .class_ 33), (1, u "com/example/arcrover/arcrover/StateMachine"), (2, .fieldref 31 37), (0, .nameAndType 8 38), (0, u "Ljava/lang/String;"), (0, .fieldref 31 40), (0, .nameAndType 41 42), (0, u "transitions"), (0, u "Ljava/util/List;"), (0, .fieldref 31 44), (0, .nameAndType 45 46), (0, u "probabilities"), (0, u "Ljava/util/Map;"), (0, .interfaceMethodref 22 48), (0, .nameAndType 49 50), (0, u "of"), (0, u "()Ljava/util/Map;"), (0, .methodref 31 52), (0, .nameAndType 5 53), (0, u "(Ljava/lang/String;Ljava/util/List;Ljava/util/Map;)V"), (53, .class_ 108), (0, u "com/example/arcrover/arcrover/StateMachine$Choice"), (56, u "(Ljava/lang/String;Ljava/util/List;)V"), (2, u "()Ljava/util/List;")] 38

def k23c0 : Code := { maxStack := 2, maxLocals := 4, code := prog_16_method_1_code, exceptionTable := #[], attributes := #[] }
def k23m0 : Method := { name := "<init>", desc := "(Ljava/lang/String;Ljava/util/List;Ljava/util/Map;)V", sig := { parameters := [(.object "java/lang/String"), (.object "java/util/List"), (.object "java/util/Map")], returnType := none }, accessFlags := 1, code := some k23c0 }
def k23c1 : Code := { maxStack := 4, maxLocals := 3, code := prog_16_method_2_code, exceptionTable := #[], attributes := #[] }
def k23m1 : Method := { name := "<init>", desc := "(Ljava/lang/String;Ljava/util/List;)V", sig := { parameters := [(.object "java/lang/String"), (.object "java/util/List")], returnType := none }, accessFlags := 1, code := some k23c1 }
def k23c2 : Code := { maxStack := 1, maxLocals := 1, code := prog_16_method_8_code, exceptionTable := #[], attributes := #[] }
def k23m2 : Method := { name := "transitions", desc := "()Ljava/util/List;", sig := { parameters := [], returnType := some (.object "java/util/List") }, accessFlags := 1, code := some k23c2 }
/-- com/example/arcrover/arcrover/StateMachine -/
def k23 : Class := { plain "com/example/arcrover/arcrover/StateMachine" (some 21) with
  accessFlags := 49
  interfaces := #[]
  cf := some (fileOf pool23 31 #[.nestMembers #[107]] #[{ accessFlags := 1, nameIndex := 5, descriptorIndex := 53, attributes := #[] }, { accessFlags := 1, nameIndex := 5, descriptorIndex := 165, attributes := #[] }, { accessFlags := 1, nameIndex := 41, descriptorIndex := 168, attributes := #[] }] 49 2 #[] #[{ accessFlags := 18, nameIndex := 8, descriptorIndex := 38, attributes := #[] }, { accessFlags := 18, nameIndex := 41, descriptorIndex := 42, attributes := #[] }, { accessFlags := 18, nameIndex := 45, descriptorIndex := 46, attributes := #[] }])
  fields := #[{ name := "initial", type := (.object "java/lang/String"), accessFlags := 18, slot := 0, constantValue := 0 }, { name := "transitions", type := (.object "java/util/List"), accessFlags := 18, slot := 1, constantValue := 0 }, { name := "probabilities", type := (.object "java/util/Map"), accessFlags := 18, slot := 2, constantValue := 0 }]
  methods := #[k23m0, k23m1, k23m2]
  instanceTypes := #[(.object "java/lang/String"), (.object "java/util/List"), (.object "java/util/Map")]
  staticTypes := #[]
  resolved := Array.replicate 207 none
  statics := none }

def pool24 : Array CpInfo := pool [(2, .class_ 4), (1, u "java/util/Map"), (26, u "()Z"), (4, .class_ 37), (0, u "java/util/Map$Entry"), (43, .fieldref 82 83), (0, .class_ 84), (0, .nameAndType 85 86), (0, u "java/util/ImmutableCollections"), (0, u "EMPTY_MAP"), (0, u "Ljava/util/ImmutableCollections$MapN;"), (6, .class_ 94), (0, u "java/lang/Object"), (6, .class_ 102), (0, u "java/util/ImmutableCollections$AbstractImmutableMap"), (2, u "isEmpty"), (2, u "of"), (0, u "()Ljava/util/Map;"), (140, u "copyOf"), (0, u "(Ljava/util/Map;)Ljava/util/Map;")] 11

def k24m0 : Method := { name := "isEmpty", desc := "()Z", sig := { parameters := [], returnType := some .boolean }, accessFlags := 1025, code := none }
def k24c1 : Code := { maxStack := 1, maxLocals := 0, code := jdk_72_method_26_code, exceptionTable := #[], attributes := #[] }
def k24m1 : Method := { name := "of", desc := "()Ljava/util/Map;", sig := { parameters := [], returnType := some (.object "java/util/Map") }, accessFlags := 9, code := some k24c1 }
def k24c2 : Code := { maxStack := 2, maxLocals := 1, code := jdk_72_method_39_code, exceptionTable := #[], attributes := #[] }
def k24m2 : Method := { name := "copyOf", desc := "(Ljava/util/Map;)Ljava/util/Map;", sig := { parameters := [(.object "java/util/Map")], returnType := some (.object "java/util/Map") }, accessFlags := 9, code := some k24c2 }
/-- java/util/Map -/
def k24 : Class := { plain "java/util/Map" (some 0) with
  accessFlags := 1537
  interfaces := #[]
  cf := some (fileOf pool24 2 #[.nestMembers #[36]] #[{ accessFlags := 1025, nameIndex := 105, descriptorIndex := 31, attributes := #[] }, { accessFlags := 9, nameIndex := 108, descriptorIndex := 109, attributes := #[] }, { accessFlags := 9, nameIndex := 250, descriptorIndex := 251, attributes := #[] }] 1537 93 #[] #[])
  fields := #[]
  methods := #[k24m0, k24m1, k24m2]
  instanceTypes := #[]
  staticTypes := #[]
  resolved := Array.replicate 263 none
  statics := none }

def pool25 : Array CpInfo := pool [(2, .class_ 4), (1, u "java/lang/Object"), (0, u "<init>"), (0, u "()V"), (3, .class_ 11), (0, u "java/util/ImmutableCollections$List12"), (0, .class_ 13), (0, u "java/util/ImmutableCollections$ListN"), (3, u "Z"), (0, .class_ 19), (0, u "java/util/List"), (0, .interfaceMethodref 21 22), (0, .class_ 23), (0, .nameAndType 24 25), (0, u "java/util/Collection"), (0, u "isEmpty"), (0, u "()Z"), (0, .interfaceMethodref 18 27), (0, .nameAndType 28 29), (0, u "of"), (0, u "()Ljava/util/List;"), (0, .interfaceMethodref 21 31), (0, .nameAndType 32 33), (0, u "toArray"), (0, u "()[Ljava/lang/Object;"), (0, .interfaceMethodref 18 35), (0, .nameAndType 28 36), (0, u "([Ljava/lang/Object;)Ljava/util/List;"), (0, .methodref 38 39), (0, .class_ 40), (0, .nameAndType 41 42), (0, u "java/util/Objects"), (0, u "requireNonNull"), (0, u "(Ljava/lang/Object;)Ljava/lang/Object;"), (0, .methodref 12 44), (0, .nameAndType 5 45), (0, u "([Ljava/lang/Object;Z)V"), (1, .class_ 49), (1, u "java/util/ImmutableCollections"), (0, u "$assertionsDisabled"), (5, u "[Ljava/lang/Object;"), (5, u "EMPTY_LIST"), (0, u "Ljava/util/ImmutableCollections$ListN;"), (8, u "EMPTY_LIST_NULLS"), (22, u "SALT32L"), (0, u "J"), (2, u "REVERSE"), (6, u "archivedObjects"), (2, u "EMPTY"), (0, u "Ljava/lang/Object;"), (0, .class_ 112), (0, u "java/util/ImmutableCollections$SetN"), (5, u "EMPTY_SET"), (0, u "Ljava/util/ImmutableCollections$SetN;"), (0, .class_ 121), (0, u "java/util/ImmutableCollections$MapN"), (3, u "EMPTY_MAP"), (0, u "Ljava/util/ImmutableCollections$MapN;"), (4, u "EXPAND_FACTOR"), (0, u "I"), (9, u "listCopy"), (0, u "(Ljava/util/Collection;)Ljava/util/List;"), (7, u "listFromArray"), (17, .class_ 170), (0, u "java/util/ImmutableCollections$MapN$MapNIterator"), (0, .class_ 172), (0, u "java/util/ImmutableCollections$MapN$1"), (0, .class_ 174), (0, u "java/util/ImmutableCollections$Map1"), (0, .class_ 176), (0, u "java/util/ImmutableCollections$AbstractImmutableMap"), (0, .class_ 178), (0, u "java/util/ImmutableCollections$SetN$SetNIterator"), (0, .class_ 180), (0, u "java/util/ImmutableCollections$Set12"), (0, .class_ 182), (0, u "java/util/ImmutableCollections$Set12$1"), (0, .class_ 184), (0, u "java/util/ImmutableCollections$AbstractImmutableSet"), (0, .class_ 186), (0, u "java/util/ImmutableCollections$SubList"), (0, .class_ 188), (0, u "java/util/ImmutableCollections$ListItr"), (0, .class_ 190), (0, u "java/util/ImmutableCollections$AbstractImmutableList"), (0, .class_ 192), (0, u "java/util/ImmutableCollections$AbstractImmutableCollection"), (0, .class_ 194), (0, u "java/util/ImmutableCollections$Access"), (0, .class_ 196), (0, u "java/util/ImmutableCollections$Access$1")] 16

def k25m0 : Method := { name := "<init>", desc := "()V", sig := { parameters := [], returnType := none }, accessFlags := 2, code := none }
def k25c1 : Code := { maxStack := 1, maxLocals := 2, code := jdk_56_method_3_code, exceptionTable := #[], attributes := #[] }
def k25m1 : Method := { name := "listCopy", desc := "(Ljava/util/Collection;)Ljava/util/List;", sig := { parameters := [(.object "java/util/Collection")], returnType := some (.object "java/util/List") }, accessFlags := 8, code := some k25c1 }
def k25c2 : Code := { maxStack := 4, maxLocals := 3, code := jdk_56_method_4_code, exceptionTable := #[], attributes := #[] }
def k25m2 : Method := { name := "listFromArray", desc := "([Ljava/lang/Object;)Ljava/util/List;", sig := { parameters := [(.array (.object "java/lang/Object"))], returnType := some (.object "java/util/List") }, accessFlags := 136, code := some k25c2 }
/-- java/util/ImmutableCollections -/
def k25 : Class := { plain "java/util/ImmutableCollections" (some 0) with
  accessFlags := 32
  interfaces := #[]
  cf := some (fileOf pool25 47 #[.nestMembers #[120, 169, 171, 173, 175, 111, 177, 179, 181, 183, 12, 10, 185, 187, 189, 191, 193, 195]] #[{ accessFlags := 2, nameIndex := 5, descriptorIndex := 6, attributes := #[] }, { accessFlags := 8, nameIndex := 142, descriptorIndex := 143, attributes := #[] }, { accessFlags := 136, nameIndex := 151, descriptorIndex := 36, attributes := #[] }] 32 2 #[] #[{ accessFlags := 26, nameIndex := 95, descriptorIndex := 96, attributes := #[] }, { accessFlags := 26, nameIndex := 99, descriptorIndex := 17, attributes := #[] }, { accessFlags := 10, nameIndex := 106, descriptorIndex := 56, attributes := #[] }, { accessFlags := 26, nameIndex := 109, descriptorIndex := 110, attributes := #[] }, { accessFlags := 24, nameIndex := 62, descriptorIndex := 63, attributes := #[] }, { accessFlags := 24, nameIndex := 72, descriptorIndex := 63, attributes := #[] }, { accessFlags := 24, nameIndex := 118, descriptorIndex := 119, attributes := #[] }, { accessFlags := 24, nameIndex := 125, descriptorIndex := 126, attributes := #[] }, { accessFlags := 24, nameIndex := 131, descriptorIndex := 132, attributes := #[] }, { accessFlags := 4120, nameIndex := 50, descriptorIndex := 17, attributes := #[] }])
  fields := #[{ name := "SALT32L", type := .long, accessFlags := 26, slot := 0, constantValue := 0 }, { name := "REVERSE", type := .boolean, accessFlags := 26, slot := 1, constantValue := 0 }, { name := "archivedObjects", type := (.array (.object "java/lang/Object")), accessFlags := 10, slot := 2, constantValue := 0 }, { name := "EMPTY", type := (.object "java/lang/Object"), accessFlags := 26, slot := 3, constantValue := 0 }, { name := "EMPTY_LIST", type := (.object "java/util/ImmutableCollections$ListN"), accessFlags := 24, slot := 4, constantValue := 0 }, { name := "EMPTY_LIST_NULLS", type := (.object "java/util/ImmutableCollections$ListN"), accessFlags := 24, slot := 5, constantValue := 0 }, { name := "EMPTY_SET", type := (.object "java/util/ImmutableCollections$SetN"), accessFlags := 24, slot := 6, constantValue := 0 }, { name := "EMPTY_MAP", type := (.object "java/util/ImmutableCollections$MapN"), accessFlags := 24, slot := 7, constantValue := 0 }, { name := "EXPAND_FACTOR", type := .int, accessFlags := 24, slot := 8, constantValue := 0 }, { name := "$assertionsDisabled", type := .boolean, accessFlags := 4120, slot := 9, constantValue := 0 }]
  methods := #[k25m0, k25m1, k25m2]
  instanceTypes := #[]
  staticTypes := #[.long, .boolean, (.array (.object "java/lang/Object")), (.object "java/lang/Object"), (.object "java/util/ImmutableCollections$ListN"), (.object "java/util/ImmutableCollections$ListN"), (.object "java/util/ImmutableCollections$SetN"), (.object "java/util/ImmutableCollections$MapN"), .int, .boolean]
  resolved := Array.replicate 213 none
  statics := some 2 }

def pool26 : Array CpInfo := pool [(2, .class_ 4), (1, u "java/lang/Object"), (0, u "<init>"), (0, u "()V"), (35, .class_ 44), (1, u "java/util/Objects"), (0, u "requireNonNull"), (0, u "(Ljava/lang/Object;)Ljava/lang/Object;"), (47, u "(Ljava/lang/Object;Ljava/lang/String;)Ljava/lang/Object;")] 89

def k26m0 : Method := { name := "<init>", desc := "()V", sig := { parameters := [], returnType := none }, accessFlags := 2, code := none }
def k26c1 : Code := { maxStack := 2, maxLocals := 1, code := jdk_31_method_10_code, exceptionTable := #[], attributes := #[] }
def k26m1 : Method := { name := "requireNonNull", desc := "(Ljava/lang/Object;)Ljava/lang/Object;", sig := { parameters := [(.object "java/lang/Object")], returnType := some (.object "java/lang/Object") }, accessFlags := 9, code := some k26c1 }
def k26c2 : Code := { maxStack := 3, maxLocals := 2, code := jdk_31_method_11_code, exceptionTable := #[], attributes := #[] }
def k26m2 : Method := { name := "requireNonNull", desc := "(Ljava/lang/Object;Ljava/lang/String;)Ljava/lang/Object;", sig := { parameters := [(.object "java/lang/Object"), (.object "java/lang/String")], returnType := some (.object "java/lang/Object") }, accessFlags := 9, code := some k26c2 }
/-- java/util/Objects -/
def k26 : Class := { plain "java/util/Objects" (some 0) with
  accessFlags := 49
  interfaces := #[]
  cf := some (fileOf pool26 42 #[] #[{ accessFlags := 2, nameIndex := 5, descriptorIndex := 6, attributes := #[] }, { accessFlags := 9, nameIndex := 45, descriptorIndex := 46, attributes := #[] }, { accessFlags := 9, nameIndex := 45, descriptorIndex := 94, attributes := #[] }] 49 2 #[] #[])
  fields := #[]
  methods := #[k26m0, k26m1, k26m2]
  instanceTypes := #[]
  staticTypes := #[]
  resolved := Array.replicate 184 none
  statics := none }

def pool27 : Array CpInfo := pool [(1, .methodref 2 3), (0, .class_ 4), (0, .nameAndType 5 6), (0, u "java/util/AbstractCollection"), (0, u "<init>"), (0, u "()V"), (1, .class_ 10), (1, u "java/util/ImmutableCollections"), (2, .class_ 14), (0, u "java/util/ImmutableCollections$AbstractImmutableCollection")] 41

def k27c0 : Code := { maxStack := 1, maxLocals := 1, code := jdk_47_method_1_code, exceptionTable := #[], attributes := #[] }
def k27m0 : Method := { name := "<init>", desc := "()V", sig := { parameters := [], returnType := none }, accessFlags := 0, code := some k27c0 }
/-- java/util/ImmutableCollections$AbstractImmutableCollection -/
def k27 : Class := { plain "java/util/ImmutableCollections$AbstractImmutableCollection" (some 11) with
  accessFlags := 1056
  interfaces := #[]
  cf := some (fileOf pool27 13 #[.nestHost 8] #[{ accessFlags := 0, nameIndex := 5, descriptorIndex := 6, attributes := #[] }] 1056 2 #[] #[])
  fields := #[]
  methods := #[k27m0]
  instanceTypes := #[]
  staticTypes := #[]
  resolved := Array.replicate 56 none
  statics := none }

def pool28 : Array CpInfo := pool [(1, .methodref 2 3), (0, .class_ 4), (0, .nameAndType 5 6), (0, u "java/util/ImmutableCollections$AbstractImmutableCollection"), (0, u "<init>"), (0, u "()V"), (1, .class_ 10), (1, u "java/util/ImmutableCollections"), (3, .class_ 16), (1, u "java/util/ImmutableCollections$AbstractImmutableList"), (60, .class_ 78), (0, u "java/util/List"), (45, .class_ 125), (0, u "java/util/RandomAccess")] 70

def k28c0 : Code := { maxStack := 1, maxLocals := 1, code := jdk_46_method_1_code, exceptionTable := #[], attributes := #[] }
def k28m0 : Method := { name := "<init>", desc := "()V", sig := { parameters := [], returnType := none }, accessFlags := 0, code := some k28c0 }
/-- java/util/ImmutableCollections$AbstractImmutableList -/
def k28 : Class := { plain "java/util/ImmutableCollections$AbstractImmutableList" (some 27) with
  accessFlags := 1056
  interfaces := #[13, 15]
  cf := some (fileOf pool28 14 #[.nestHost 8] #[{ accessFlags := 0, nameIndex := 5, descriptorIndex := 6, attributes := #[] }] 1056 2 #[77, 124] #[])
  fields := #[]
  methods := #[k28m0]
  instanceTypes := #[]
  staticTypes := #[]
  resolved := Array.replicate 196 none
  statics := none }

def pool29 : Array CpInfo := pool [(1, .methodref 2 3), (0, .class_ 4), (0, .nameAndType 5 6), (0, u "java/util/ImmutableCollections$AbstractImmutableList"), (0, u "<init>"), (0, u "()V"), (0, .methodref 8 9), (0, .class_ 10), (0, .nameAndType 11 12), (0, u "java/util/Objects"), (0, u "requireNonNull"), (0, u "(Ljava/lang/Object;)Ljava/lang/Object;"), (0, .fieldref 14 15), (0, .class_ 16), (0, .nameAndType 17 18), (0, u "java/util/ImmutableCollections$List12"), (0, u "e0"), (0, u "Ljava/lang/Object;"), (0, .fieldref 20 21), (0, .class_ 22), (0, .nameAndType 23 18), (0, u "java/util/ImmutableCollections"), (0, u "EMPTY"), (0, .fieldref 14 25), (0, .nameAndType 26 18), (0, u "e1"), (24, u "size"), (0, u "()I"), (17, .class_ 71), (0, u "java/io/Serializable"), (4, u "(Ljava/lang/Object;)V"), (8, u "(Ljava/lang/Object;Ljava/lang/Object;)V")] 39

def k29c0 : Code := { maxStack := 2, maxLocals := 2, code := jdk_44_method_1_code, exceptionTable := #[], attributes := #[] }
def k29m0 : Method := { name := "<init>", desc := "(Ljava/lang/Object;)V", sig := { parameters := [(.object "java/lang/Object")], returnType := none }, accessFlags := 0, code := some k29c0 }
def k29c1 : Code := { maxStack := 2, maxLocals := 3, code := jdk_44_method_2_code, exceptionTable := #[], attributes := #[] }
def k29m1 : Method := { name := "<init>", desc := "(Ljava/lang/Object;Ljava/lang/Object;)V", sig := { parameters := [(.object "java/lang/Object"), (.object "java/lang/Object")], returnType := none }, accessFlags := 0, code := some k29c1 }
def k29c2 : Code := { maxStack := 2, maxLocals := 1, code := jdk_44_method_3_code, exceptionTable := #[], attributes := #[] }
def k29m2 : Method := { name := "size", desc := "()I", sig := { parameters := [], returnType := some .int }, accessFlags := 1, code := some k29c2 }
/-- java/util/ImmutableCollections$List12 -/
def k29 : Class := { plain "java/util/ImmutableCollections$List12" (some 28) with
  accessFlags := 48
  interfaces := #[2]
  cf := some (fileOf pool29 14 #[.nestHost 20] #[{ accessFlags := 0, nameIndex := 5, descriptorIndex := 76, attributes := #[] }, { accessFlags := 0, nameIndex := 5, descriptorIndex := 85, attributes := #[] }, { accessFlags := 1, nameIndex := 51, descriptorIndex := 52, attributes := #[] }] 48 2 #[70] #[{ accessFlags := 18, nameIndex := 17, descriptorIndex := 18, attributes := #[] }, { accessFlags := 18, nameIndex := 26, descriptorIndex := 18, attributes := #[] }])
  fields := #[{ name := "e0", type := (.object "java/lang/Object"), accessFlags := 18, slot := 0, constantValue := 0 }, { name := "e1", type := (.object "java/lang/Object"), accessFlags := 18, slot := 1, constantValue := 0 }]
  methods := #[k29m0, k29m1, k29m2]
  instanceTypes := #[(.object "java/lang/Object"), (.object "java/lang/Object")]
  staticTypes := #[]
  resolved := Array.replicate 125 none
  statics := none }

def pool30 : Array CpInfo := pool [(1, .methodref 2 3), (0, .class_ 4), (0, .nameAndType 5 6), (0, u "java/util/ImmutableCollections$AbstractImmutableList"), (0, u "<init>"), (0, u "()V"), (0, .fieldref 8 9), (0, .class_ 10), (0, .nameAndType 11 12), (0, u "java/util/ImmutableCollections$ListN"), (0, u "elements"), (0, u "[Ljava/lang/Object;"), (0, .fieldref 8 14), (0, .nameAndType 15 16), (0, u "allowNulls"), (0, u "Z"), (42, .class_ 60), (0, u "java/io/Serializable"), (4, u "([Ljava/lang/Object;Z)V"), (11, u "size"), (0, u "()I"), (35, .class_ 115), (0, u "java/util/ImmutableCollections")] 3

def k30c0 : Code := { maxStack := 2, maxLocals := 3, code := jdk_45_method_1_code, exceptionTable := #[], attributes := #[] }
def k30m0 : Method := { name := "<init>", desc := "([Ljava/lang/Object;Z)V", sig := { parameters := [(.array (.object "java/lang/Object")), .boolean], returnType := none }, accessFlags := 2, code := some k30c0 }
def k30c1 : Code := { maxStack := 1, maxLocals := 1, code := jdk_45_method_3_code, exceptionTable := #[], attributes := #[] }
def k30m1 : Method := { name := "size", desc := "()I", sig := { parameters := [], returnType := some .int }, accessFlags := 1, code := some k30c1 }
/-- java/util/ImmutableCollections$ListN -/
def k30 : Class := { plain "java/util/ImmutableCollections$ListN" (some 28) with
  accessFlags := 48
  interfaces := #[2]
  cf := some (fileOf pool30 8 #[.nestHost 114] #[{ accessFlags := 2, nameIndex := 5, descriptorIndex := 65, attributes := #[] }, { accessFlags := 1, nameIndex := 77, descriptorIndex := 78, attributes := #[] }] 48 2 #[59] #[{ accessFlags := 18, nameIndex := 11, descriptorIndex := 12, attributes := #[] }, { accessFlags := 18, nameIndex := 15, descriptorIndex := 16, attributes := #[] }])
  fields := #[{ name := "elements", type := (.array (.object "java/lang/Object")), accessFlags := 18, slot := 0, constantValue := 0 }, { name := "allowNulls", type := .boolean, accessFlags := 18, slot := 1, constantValue := 0 }]
  methods := #[k30m0, k30m1]
  instanceTypes := #[(.array (.object "java/lang/Object")), .boolean]
  staticTypes := #[]
  resolved := Array.replicate 119 none
  statics := none }

def pool31 : Array CpInfo := pool [(2, .class_ 4), (1, u "java/lang/Object"), (0, u "<init>"), (0, u "()V"), (1, .class_ 10), (1, u "java/util/AbstractMap"), (42, .class_ 54), (0, u "java/util/Map"), (9, u "keySet"), (0, u "Ljava/util/Set;"), (0, .class_ 67), (0, u "java/util/AbstractMap$1"), (5, u "values"), (0, u "Ljava/util/Collection;"), (0, .class_ 76), (0, u "java/util/AbstractMap$2"), (104, .class_ 182), (0, u "java/util/AbstractMap$ViewCollection"), (0, .class_ 184), (0, u "java/util/AbstractMap$SimpleImmutableEntry"), (0, .class_ 186), (0, u "java/util/AbstractMap$SimpleEntry"), (0, .class_ 188), (0, u "java/util/AbstractMap$2$1"), (0, .class_ 190), (0, u "java/util/AbstractMap$1$1")] 5

def k31m0 : Method := { name := "<init>", desc := "()V", sig := { parameters := [], returnType := none }, accessFlags := 4, code := none }
/-- java/util/AbstractMap -/
def k31 : Class := { plain "java/util/AbstractMap" (some 0) with
  accessFlags := 1057
  interfaces := #[24]
  cf := some (fileOf pool31 8 #[.nestMembers #[181, 183, 185, 75, 187, 66, 189]] #[{ accessFlags := 4, nameIndex := 5, descriptorIndex := 6, attributes := #[] }] 1057 2 #[53] #[{ accessFlags := 128, nameIndex := 64, descriptorIndex := 65, attributes := #[] }, { accessFlags := 128, nameIndex := 73, descriptorIndex := 74, attributes := #[] }])
  fields := #[{ name := "keySet", type := (.object "java/util/Set"), accessFlags := 128, slot := 0, constantValue := 0 }, { name := "values", type := (.object "java/util/Collection"), accessFlags := 128, slot := 1, constantValue := 0 }]
  methods := #[k31m0]
  instanceTypes := #[(.object "java/util/Set"), (.object "java/util/Collection")]
  staticTypes := #[]
  resolved := Array.replicate 196 none
  statics := none }

def pool32 : Array CpInfo := pool [(2, .class_ 4), (1, u "java/util/AbstractMap"), (0, u "<init>"), (0, u "()V"), (1, .class_ 10), (1, u "java/util/ImmutableCollections"), (3, .class_ 16), (1, u "java/util/ImmutableCollections$AbstractImmutableMap"), (2, .class_ 20), (0, u "java/io/Serializable")] 66

def k32m0 : Method := { name := "<init>", desc := "()V", sig := { parameters := [], returnType := none }, accessFlags := 0, code := none }
/-- java/util/ImmutableCollections$AbstractImmutableMap -/
def k32 : Class := { plain "java/util/ImmutableCollections$AbstractImmutableMap" (some 31) with
  accessFlags := 1056
  interfaces := #[2]
  cf := some (fileOf pool32 14 #[.nestHost 8] #[{ accessFlags := 0, nameIndex := 5, descriptorIndex := 6, attributes := #[] }] 1056 2 #[19] #[])
  fields := #[]
  methods := #[k32m0]
  instanceTypes := #[(.object "java/util/Set"), (.object "java/util/Collection")]
  staticTypes := #[]
  resolved := Array.replicate 87 none
  statics := none }

def pool33 : Array CpInfo := pool [(1, .class_ 2), (0, u "java/util/ImmutableCollections"), (1, .class_ 6), (1, u "java/util/ImmutableCollections$AbstractImmutableMap"), (9, .fieldref 17 18), (0, .class_ 19), (0, .nameAndType 20 21), (0, u "java/util/ImmutableCollections$MapN"), (0, u "size"), (0, u "I"), (4, u "table"), (0, u "[Ljava/lang/Object;"), (87, u "isEmpty"), (0, u "()Z")] 32

def k33c0 : Code := { maxStack := 1, maxLocals := 1, code := jdk_2605_method_7_code, exceptionTable := #[], attributes := #[] }
def k33m0 : Method := { name := "isEmpty", desc := "()Z", sig := { parameters := [], returnType := some .boolean }, accessFlags := 1, code := some k33c0 }
/-- java/util/ImmutableCollections$MapN -/
def k33 : Class := { plain "java/util/ImmutableCollections$MapN" (some 32) with
  accessFlags := 48
  interfaces := #[]
  cf := some (fileOf pool33 17 #[.nestHost 1] #[{ accessFlags := 1, nameIndex := 115, descriptorIndex := 116, attributes := #[] }] 48 4 #[] #[{ accessFlags := 16, nameIndex := 26, descriptorIndex := 27, attributes := #[] }, { accessFlags := 16, nameIndex := 20, descriptorIndex := 21, attributes := #[] }])
  fields := #[{ name := "table", type := (.array (.object "java/lang/Object")), accessFlags := 16, slot := 2, constantValue := 0 }, { name := "size", type := .int, accessFlags := 16, slot := 3, constantValue := 0 }]
  methods := #[k33m0]
  instanceTypes := #[(.object "java/util/Set"), (.object "java/util/Collection"), (.array (.object "java/lang/Object")), .int]
  staticTypes := #[]
  resolved := Array.replicate 149 none
  statics := none }

def pool34 : Array CpInfo := pool [(2, .class_ 4), (1, u "java/lang/Object"), (0, u "<init>"), (0, u "()V"), (7, .class_ 16), (1, u "java/util/Arrays"), (57, .class_ 76), (1, u "java/util/Arrays$NaturalOrder"), (9, .methodref 2 87), (0, .nameAndType 88 89), (0, u "getClass"), (0, u "()Ljava/lang/Class;"), (20, .class_ 111), (0, u "[Ljava/lang/Object;"), (1, .class_ 115), (1, u "java/util/Arrays$LegacyMergeSort"), (1, u "Z"), (32, .methodref 151 152), (0, .class_ 153), (0, .nameAndType 154 155), (0, u "java/lang/System"), (0, u "arraycopy"), (0, u "(Ljava/lang/Object;ILjava/lang/Object;II)V"), (144, .methodref 14 301), (0, .nameAndType 302 303), (0, u "copyOf"), (0, u "([Ljava/lang/Object;ILjava/lang/Class;)[Ljava/lang/Object;"), (0, .methodref 305 306), (0, .class_ 307), (0, .nameAndType 308 309), (0, u "java/lang/Math"), (0, u "min"), (0, u "(II)I"), (65, .class_ 376), (0, u "java/util/Arrays$ArrayList"), (68, u "$assertionsDisabled"), (269, u "MIN_ARRAY_SORT_GRAN"), (0, u "I"), (2, u "INSERTIONSORT_THRESHOLD"), (140, u "([Ljava/lang/Object;I)[Ljava/lang/Object;"), (114, .class_ 976), (0, u "java/util/Arrays$ArrayItr")] 52

def k34m0 : Method := { name := "<init>", desc := "()V", sig := { parameters := [], returnType := none }, accessFlags := 2, code := none }
def k34c1 : Code := { maxStack := 3, maxLocals := 2, code := jdk_65_method_119_code, exceptionTable := #[], attributes := #[] }
def k34m1 : Method := { name := "copyOf", desc := "([Ljava/lang/Object;I)[Ljava/lang/Object;", sig := { parameters := [(.array (.object "java/lang/Object")), .int], returnType := some (.array (.object "java/lang/Object")) }, accessFlags := 9, code := some k34c1 }
def k34c2 : Code := { maxStack := 6, maxLocals := 4, code := jdk_65_method_120_code, exceptionTable := #[], attributes := #[] }
def k34m2 : Method := { name := "copyOf", desc := "([Ljava/lang/Object;ILjava/lang/Class;)[Ljava/lang/Object;", sig := { parameters := [(.array (.object "java/lang/Object")), .int, (.object "java/lang/Class")], returnType := some (.array (.object "java/lang/Object")) }, accessFlags := 9, code := some k34c2 }
/-- java/util/Arrays -/
def k34 : Class := { plain "java/util/Arrays" (some 0) with
  accessFlags := 49
  interfaces := #[]
  cf := some (fileOf pool34 14 #[.nestMembers #[975, 375, 113, 74]] #[{ accessFlags := 2, nameIndex := 5, descriptorIndex := 6, attributes := #[] }, { accessFlags := 9, nameIndex := 302, descriptorIndex := 860, attributes := #[] }, { accessFlags := 9, nameIndex := 302, descriptorIndex := 303, attributes := #[] }] 49 2 #[] #[{ accessFlags := 26, nameIndex := 715, descriptorIndex := 716, attributes := #[] }, { accessFlags := 26, nameIndex := 719, descriptorIndex := 716, attributes := #[] }, { accessFlags := 4120, nameIndex := 445, descriptorIndex := 117, attributes := #[] }])
  fields := #[{ name := "MIN_ARRAY_SORT_GRAN", type := .int, accessFlags := 26, slot := 0, constantValue := 0 }, { name := "INSERTIONSORT_THRESHOLD", type := .int, accessFlags := 26, slot := 1, constantValue := 0 }, { name := "$assertionsDisabled", type := .boolean, accessFlags := 4120, slot := 2, constantValue := 0 }]
  methods := #[k34m0, k34m1, k34m2]
  instanceTypes := #[]
  staticTypes := #[.int, .int, .boolean]
  resolved := Array.replicate 1029 none
  statics := none }

def pool35 : Array CpInfo := pool [(2, .class_ 4), (1, u "java/lang/Object"), (0, u "<init>"), (0, u "()V"), (1, .class_ 10), (1, u "java/lang/System"), (0, u "allowSecurityManager"), (0, u "I"), (16, u "cons"), (0, u "Ljava/io/Console;"), (77, .class_ 110), (1, u "java/lang/System$CallersHolder"), (43, u "initialErrStream"), (0, u "Ljava/io/PrintStream;"), (19, u "security"), (0, u "Ljava/lang/SecurityManager;"), (31, .class_ 209), (0, u "java/lang/System$1"), (7, u "props"), (0, u "Ljava/util/Properties;"), (2, u "lineSeparator"), (0, u "Ljava/lang/String;"), (96, .class_ 321), (1, u "java/lang/System$LoggerFinder"), (5, .class_ 328), (0, u "java/lang/System$Logger"), (67, u "err"), (2, u "out"), (91, u "notSupportedJnuEncoding"), (15, u "in"), (17, u "initialIn"), (0, u "Ljava/io/InputStream;"), (35, u "bootLayer"), (0, u "Ljava/lang/ModuleLayer;"), (99, .class_ 664), (0, u "java/lang/System$2"), (9, u "NEVER"), (2, u "MAYBE"), (49, u "arraycopy"), (0, u "(Ljava/lang/Object;ILjava/lang/Object;II)V"), (72, .class_ 802), (0, u "java/lang/System$Logger$Level")] 31

def k35m0 : Method := { name := "<init>", desc := "()V", sig := { parameters := [], returnType := none }, accessFlags := 2, code := none }
def k35m1 : Method := { name := "arraycopy", desc := "(Ljava/lang/Object;ILjava/lang/Object;II)V", sig := { parameters := [(.object "java/lang/Object"), .int, (.object "java/lang/Object"), .int, .int], returnType := none }, accessFlags := 265, code := none }
/-- java/lang/System -/
def k35 : Class := { plain "java/lang/System" (some 0) with
  accessFlags := 49
  interfaces := #[]
  cf := some (fileOf pool35 8 #[.nestMembers #[319, 327, 801, 108, 663, 208]] #[{ accessFlags := 2, nameIndex := 5, descriptorIndex := 6, attributes := #[] }, { accessFlags := 265, nameIndex := 727, descriptorIndex := 728, attributes := #[] }] 49 2 #[] #[{ accessFlags := 25, nameIndex := 507, descriptorIndex := 526, attributes := #[] }, { accessFlags := 25, nameIndex := 399, descriptorIndex := 155, attributes := #[] }, { accessFlags := 25, nameIndex := 396, descriptorIndex := 155, attributes := #[] }, { accessFlags := 10, nameIndex := 525, descriptorIndex := 526, attributes := #[] }, { accessFlags := 26, nameIndex := 674, descriptorIndex := 12, attributes := #[] }, { accessFlags := 26, nameIndex := 677, descriptorIndex := 12, attributes := #[] }, { accessFlags := 10, nameIndex := 11, descriptorIndex := 12, attributes := #[] }, { accessFlags := 74, nameIndex := 175, descriptorIndex := 176, attributes := #[] }, { accessFlags := 10, nameIndex := 491, descriptorIndex := 222, attributes := #[] }, { accessFlags := 74, nameIndex := 29, descriptorIndex := 30, attributes := #[] }, { accessFlags := 74, nameIndex := 154, descriptorIndex := 155, attributes := #[] }, { accessFlags := 10, nameIndex := 217, descriptorIndex := 218, attributes := #[] }, { accessFlags := 10, nameIndex := 221, descriptorIndex := 222, attributes := #[] }, { accessFlags := 8, nameIndex := 562, descriptorIndex := 563, attributes := #[] }])
  fields := #[{ name := "in", type := (.object "java/io/InputStream"), accessFlags := 25, slot := 0, constantValue := 0 }, { name := "out", type := (.object "java/io/PrintStream"), accessFlags := 25, slot := 1, constantValue := 0 }, { name := "err", type := (.object "java/io/PrintStream"), accessFlags := 25, slot := 2, constantValue := 0 }, { name := "initialIn", type := (.object "java/io/InputStream"), accessFlags := 10, slot := 3, constantValue := 0 }, { name := "NEVER", type := .int, accessFlags := 26, slot := 4, constantValue := 0 }, { name := "MAYBE", type := .int, accessFlags := 26, slot := 5, constantValue := 0 }, { name := "allowSecurityManager", type := .int, accessFlags := 10, slot := 6, constantValue := 0 }, { name := "security", type := (.object "java/lang/SecurityManager"), accessFlags := 74, slot := 7, constantValue := 0 }, { name := "notSupportedJnuEncoding", type := (.object "java/lang/String"), accessFlags := 10, slot := 8, constantValue := 0 }, { name := "cons", type := (.object "java/io/Console"), accessFlags := 74, slot := 9, constantValue := 0 }, { name := "initialErrStream", type := (.object "java/io/PrintStream"), accessFlags := 74, slot := 10, constantValue := 0 }, { name := "props", type := (.object "java/util/Properties"), accessFlags := 10, slot := 11, constantValue := 0 }, { name := "lineSeparator", type := (.object "java/lang/String"), accessFlags := 10, slot := 12, constantValue := 0 }, { name := "bootLayer", type := (.object "java/lang/ModuleLayer"), accessFlags := 8, slot := 13, constantValue := 0 }]
  methods := #[k35m0, k35m1]
  instanceTypes := #[]
  staticTypes := #[(.object "java/io/InputStream"), (.object "java/io/PrintStream"), (.object "java/io/PrintStream"), (.object "java/io/InputStream"), .int, .int, .int, (.object "java/lang/SecurityManager"), (.object "java/lang/String"), (.object "java/io/Console"), (.object "java/io/PrintStream"), (.object "java/util/Properties"), (.object "java/lang/String"), (.object "java/lang/ModuleLayer")]
  resolved := Array.replicate 834 none
  statics := none }

def pool36 : Array CpInfo := pool [(1, .methodref 2 3), (0, .class_ 4), (0, .nameAndType 5 6), (0, u "java/lang/Record"), (0, u "<init>"), (0, u "()V"), (0, .string 8), (0, u "source"), (0, .methodref 10 11), (0, .class_ 12), (0, .nameAndType 13 14), (0, u "java/util/Objects"), (0, u "requireNonNull"), (0, u "(Ljava/lang/Object;Ljava/lang/String;)Ljava/lang/Object;"), (0, .string 16), (0, u "stimulus"), (0, .string 18), (0, u "reaction"), (0, .string 20), (0, u "target"), (0, .fieldref 22 23), (0, .class_ 24), (0, .nameAndType 8 25), (0, u "com/example/arcrover/arcrover/Transition"), (0, u "Ljava/lang/String;"), (0, .fieldref 22 27), (0, .nameAndType 16 25), (0, .fieldref 22 29), (0, .nameAndType 18 25), (0, .fieldref 22 31), (0, .nameAndType 20 25), (12, u "(Ljava/lang/String;Ljava/lang/String;Ljava/lang/String;Ljava/lang/String;)V")] 29

def k36c0 : Code := { maxStack := 2, maxLocals := 5, code := prog_19_method_1_code, exceptionTable := #[], attributes := #[] }
def k36m0 : Method := { name := "<init>", desc := "(Ljava/lang/String;Ljava/lang/String;Ljava/lang/String;Ljava/lang/String;)V", sig := { parameters := [(.object "java/lang/String"), (.object "java/lang/String"), (.object "java/lang/String"), (.object "java/lang/String")], returnType := none }, accessFlags := 1, code := some k36c0 }
/-- com/example/arcrover/arcrover/Transition -/
def k36 : Class := { plain "com/example/arcrover/arcrover/Transition" (some 21) with
  accessFlags := 49
  interfaces := #[]
  cf := some (fileOf pool36 22 #[] #[{ accessFlags := 1, nameIndex := 5, descriptorIndex := 44, attributes := #[] }] 49 2 #[] #[{ accessFlags := 18, nameIndex := 8, descriptorIndex := 25, attributes := #[] }, { accessFlags := 18, nameIndex := 16, descriptorIndex := 25, attributes := #[] }, { accessFlags := 18, nameIndex := 18, descriptorIndex := 25, attributes := #[] }, { accessFlags := 18, nameIndex := 20, descriptorIndex := 25, attributes := #[] }])
  fields := #[{ name := "source", type := (.object "java/lang/String"), accessFlags := 18, slot := 0, constantValue := 0 }, { name := "stimulus", type := (.object "java/lang/String"), accessFlags := 18, slot := 1, constantValue := 0 }, { name := "reaction", type := (.object "java/lang/String"), accessFlags := 18, slot := 2, constantValue := 0 }, { name := "target", type := (.object "java/lang/String"), accessFlags := 18, slot := 3, constantValue := 0 }]
  methods := #[k36m0]
  instanceTypes := #[(.object "java/lang/String"), (.object "java/lang/String"), (.object "java/lang/String"), (.object "java/lang/String")]
  staticTypes := #[]
  resolved := Array.replicate 74 none
  statics := none }

def pool37 : Array CpInfo := pool [(2, .class_ 4), (1, u "java/lang/Object"), (0, u "<init>"), (0, u "()V"), (0, .class_ 8), (0, u "java/lang/Long"), (7, .class_ 18), (1, u "java/lang/Long$LongCache"), (0, u "$assertionsDisabled"), (0, u "Z"), (8, u "archivedCache"), (0, u "[Ljava/lang/Long;"), (7, u "cache")] 24

def k37m0 : Method := { name := "<init>", desc := "()V", sig := { parameters := [], returnType := none }, accessFlags := 2, code := none }
/-- java/lang/Long$LongCache -/
def k37 : Class := { plain "java/lang/Long$LongCache" (some 0) with
  accessFlags := 48
  interfaces := #[]
  cf := some (fileOf pool37 16 #[.nestHost 7] #[{ accessFlags := 2, nameIndex := 5, descriptorIndex := 6, attributes := #[] }] 48 2 #[] #[{ accessFlags := 24, nameIndex := 38, descriptorIndex := 30, attributes := #[] }, { accessFlags := 8, nameIndex := 29, descriptorIndex := 30, attributes := #[] }, { accessFlags := 4120, nameIndex := 19, descriptorIndex := 20, attributes := #[] }])
  fields := #[{ name := "cache", type := (.array (.object "java/lang/Long")), accessFlags := 24, slot := 0, constantValue := 0 }, { name := "archivedCache", type := (.array (.object "java/lang/Long")), accessFlags := 8, slot := 1, constantValue := 0 }, { name := "$assertionsDisabled", type := .boolean, accessFlags := 4120, slot := 2, constantValue := 0 }]
  methods := #[k37m0]
  instanceTypes := #[]
  staticTypes := #[(.array (.object "java/lang/Long")), (.array (.object "java/lang/Long")), .boolean]
  resolved := Array.replicate 63 none
  statics := some 3 }

def pool38 : Array CpInfo := pool [(2, .class_ 4), (1, u "java/lang/Object"), (0, u "<init>"), (0, u "()V"), (17, .class_ 26), (1, u "jdk/internal/util/Preconditions"), (28, .class_ 56), (0, u "jdk/internal/util/Preconditions$4"), (57, .class_ 115), (0, u "jdk/internal/util/Preconditions$1"), (7, u "SIOOBE_FORMATTER"), (0, u "Ljava/util/function/BiFunction;"), (0, .class_ 126), (0, u "jdk/internal/util/Preconditions$2"), (3, u "AIOOBE_FORMATTER"), (0, .class_ 132), (0, u "jdk/internal/util/Preconditions$3"), (3, u "IOOBE_FORMATTER")] 57

def k38m0 : Method := { name := "<init>", desc := "()V", sig := { parameters := [], returnType := none }, accessFlags := 1, code := none }
/-- jdk/internal/util/Preconditions -/
def k38 : Class := { plain "jdk/internal/util/Preconditions" (some 0) with
  accessFlags := 33
  interfaces := #[]
  cf := some (fileOf pool38 24 #[.nestMembers #[55, 131, 125, 114]] #[{ accessFlags := 1, nameIndex := 5, descriptorIndex := 6, attributes := #[] }] 33 2 #[] #[{ accessFlags := 25, nameIndex := 123, descriptorIndex := 124, attributes := #[] }, { accessFlags := 25, nameIndex := 130, descriptorIndex := 124, attributes := #[] }, { accessFlags := 25, nameIndex := 136, descriptorIndex := 124, attributes := #[] }])
  fields := #[{ name := "SIOOBE_FORMATTER", type := (.object "java/util/function/BiFunction"), accessFlags := 25, slot := 0, constantValue := 0 }, { name := "AIOOBE_FORMATTER", type := (.object "java/util/function/BiFunction"), accessFlags := 25, slot := 1, constantValue := 0 }, { name := "IOOBE_FORMATTER", type := (.object "java/util/function/BiFunction"), accessFlags := 25, slot := 2, constantValue := 0 }]
  methods := #[k38m0]
  instanceTypes := #[]
  staticTypes := #[(.object "java/util/function/BiFunction"), (.object "java/util/function/BiFunction"), (.object "java/util/function/BiFunction")]
  resolved := Array.replicate 194 none
  statics := some 4 }

def pool39 : Array CpInfo := pool [(9, u "<init>"), (6, .class_ 18), (1, u "java/lang/Object"), (0, u "()V"), (1, .class_ 23), (1, u "jdk/internal/util/ArraysSupport"), (0, u "LOG2_ARRAY_LONG_INDEX_SCALE"), (0, u "I"), (2, u "U"), (0, u "Ljdk/internal/misc/Unsafe;"), (8, u "BIG_ENDIAN"), (0, u "Z"), (8, u "LOG2_BYTE_BIT_SIZE"), (4, u "LOG2_ARRAY_INT_INDEX_SCALE"), (54, u "JLA"), (0, u "Ljdk/internal/access/JavaLangAccess;"), (11, u "LOG2_ARRAY_BOOLEAN_INDEX_SCALE"), (9, u "LOG2_ARRAY_BYTE_INDEX_SCALE"), (5, u "LOG2_ARRAY_CHAR_INDEX_SCALE"), (5, u "LOG2_ARRAY_SHORT_INDEX_SCALE"), (18, u "LOG2_ARRAY_FLOAT_INDEX_SCALE"), (24, u "LOG2_ARRAY_DOUBLE_INDEX_SCALE"), (89, u "T_BOOLEAN"), (2, u "T_CHAR"), (1, u "T_FLOAT"), (1, u "T_DOUBLE"), (1, u "T_BYTE"), (1, u "T_SHORT"), (1, u "T_INT"), (1, u "T_LONG"), (1, u "SOFT_MAX_ARRAY_LENGTH")] 83

def k39m0 : Method := { name := "<init>", desc := "()V", sig := { parameters := [], returnType := none }, accessFlags := 2, code := none }
/-- jdk/internal/util/ArraysSupport -/
def k39 : Class := { plain "jdk/internal/util/ArraysSupport" (some 0) with
  accessFlags := 33
  interfaces := #[]
  cf := some (fileOf pool39 21 #[] #[{ accessFlags := 2, nameIndex := 9, descriptorIndex := 19, attributes := #[] }] 33 16 #[] #[{ accessFlags := 24, nameIndex := 28, descriptorIndex := 29, attributes := #[] }, { accessFlags := 26, nameIndex := 38, descriptorIndex := 39, attributes := #[] }, { accessFlags := 25, nameIndex := 121, descriptorIndex := 25, attributes := #[] }, { accessFlags := 25, nameIndex := 131, descriptorIndex := 25, attributes := #[] }, { accessFlags := 25, nameIndex := 137, descriptorIndex := 25, attributes := #[] }, { accessFlags := 25, nameIndex := 143, descriptorIndex := 25, attributes := #[] }, { accessFlags := 25, nameIndex := 53, descriptorIndex := 25, attributes := #[] }, { accessFlags := 25, nameIndex := 24, descriptorIndex := 25, attributes := #[] }, { accessFlags := 25, nameIndex := 162, descriptorIndex := 25, attributes := #[] }, { accessFlags := 25, nameIndex := 187, descriptorIndex := 25, attributes := #[] }, { accessFlags := 26, nameIndex := 48, descriptorIndex := 25, attributes := #[] }, { accessFlags := 25, nameIndex := 277, descriptorIndex := 25, attributes := #[] }, { accessFlags := 25, nameIndex := 280, descriptorIndex := 25, attributes := #[] }, { accessFlags := 25, nameIndex := 282, descriptorIndex := 25, attributes := #[] }, { accessFlags := 25, nameIndex := 284, descriptorIndex := 25, attributes := #[] }, { accessFlags := 25, nameIndex := 286, descriptorIndex := 25, attributes := #[] }, { accessFlags := 25, nameIndex := 288, descriptorIndex := 25, attributes := #[] }, { accessFlags := 25, nameIndex := 290, descriptorIndex := 25, attributes := #[] }, { accessFlags := 25, nameIndex := 292, descriptorIndex := 25, attributes := #[] }, { accessFlags := 26, nameIndex := 108, descriptorIndex := 109, attributes := #[] }, { accessFlags := 25, nameIndex := 294, descriptorIndex := 25, attributes := #[] }])
  fields := #[{ name := "U", type := (.object "jdk/internal/misc/Unsafe"), accessFlags := 24, slot := 0, constantValue := 0 }, { name := "BIG_ENDIAN", type := .boolean, accessFlags := 26, slot := 1, constantValue := 0 }, { name := "LOG2_ARRAY_BOOLEAN_INDEX_SCALE", type := .int, accessFlags := 25, slot := 2, constantValue := 0 }, { name := "LOG2_ARRAY_BYTE_INDEX_SCALE", type := .int, accessFlags := 25, slot := 3, constantValue := 0 }, { name := "LOG2_ARRAY_CHAR_INDEX_SCALE", type := .int, accessFlags := 25, slot := 4, constantValue := 0 }, { name := "LOG2_ARRAY_SHORT_INDEX_SCALE", type := .int, accessFlags := 25, slot := 5, constantValue := 0 }, { name := "LOG2_ARRAY_INT_INDEX_SCALE", type := .int, accessFlags := 25, slot := 6, constantValue := 0 }, { name := "LOG2_ARRAY_LONG_INDEX_SCALE", type := .int, accessFlags := 25, slot := 7, constantValue := 0 }, { name := "LOG2_ARRAY_FLOAT_INDEX_SCALE", type := .int, accessFlags := 25, slot := 8, constantValue := 0 }, { name := "LOG2_ARRAY_DOUBLE_INDEX_SCALE", type := .int, accessFlags := 25, slot := 9, constantValue := 0 }, { name := "LOG2_BYTE_BIT_SIZE", type := .int, accessFlags := 26, slot := 10, constantValue := 0 }, { name := "T_BOOLEAN", type := .int, accessFlags := 25, slot := 11, constantValue := 0 }, { name := "T_CHAR", type := .int, accessFlags := 25, slot := 12, constantValue := 0 }, { name := "T_FLOAT", type := .int, accessFlags := 25, slot := 13, constantValue := 0 }, { name := "T_DOUBLE", type := .int, accessFlags := 25, slot := 14, constantValue := 0 }, { name := "T_BYTE", type := .int, accessFlags := 25, slot := 15, constantValue := 0 }, { name := "T_SHORT", type := .int, accessFlags := 25, slot := 16, constantValue := 0 }, { name := "T_INT", type := .int, accessFlags := 25, slot := 17, constantValue := 0 }, { name := "T_LONG", type := .int, accessFlags := 25, slot := 18, constantValue := 0 }, { name := "JLA", type := (.object "jdk/internal/access/JavaLangAccess"), accessFlags := 26, slot := 19, constantValue := 0 }, { name := "SOFT_MAX_ARRAY_LENGTH", type := .int, accessFlags := 25, slot := 20, constantValue := 0 }]
  methods := #[k39m0]
  instanceTypes := #[]
  staticTypes := #[(.object "jdk/internal/misc/Unsafe"), .boolean, .int, .int, .int, .int, .int, .int, .int, .int, .int, .int, .int, .int, .int, .int, .int, .int, .int, (.object "jdk/internal/access/JavaLangAccess"), .int]
  resolved := Array.replicate 378 none
  statics := none }

def pool40 : Array CpInfo := pool [(1, .class_ 2), (0, u "java/lang/Class"), (0, .class_ 4), (0, u "java/lang/Object")] 0

/-- java/lang/Class -/
def k40 : Class := { plain "java/lang/Class" (some 0) with
  accessFlags := 49
  interfaces := #[]
  cf := some (fileOf pool40 1 #[] #[] 49 3 #[] #[])
  fields := #[]
  methods := #[]
  instanceTypes := #[]
  staticTypes := #[]
  resolved := Array.replicate 5 none
  statics := none }

/-- the primitive byte -/
def k41 : Class := { plain "byte" none with kind := .primitive 'B', accessFlags := 0x411 }
/-- [B -/
def k42 : Class := { plain "[B" (some 0) with kind := .array 41 .byte, interfaces := #[16, 2], accessFlags := 1041 }

/-- the primitive int -/
def k43 : Class := { plain "int" none with kind := .primitive 'I', accessFlags := 0x411 }
/-- [I -/
def k44 : Class := { plain "[I" (some 0) with kind := .array 43 .int, interfaces := #[16, 2], accessFlags := 1041 }

/-- [Ljava/lang/Long; -/
def k45 : Class := { plain "[Ljava/lang/Long;" (some 0) with kind := .array 19 (.object "java/lang/Long"), interfaces := #[16, 2], accessFlags := 1041 }

/-- [Ljava/lang/Object; -/
def k46 : Class := { plain "[Ljava/lang/Object;" (some 0) with kind := .array 0 (.object "java/lang/Object"), interfaces := #[16, 2], accessFlags := 1041, mirror := some 5 }

def heap : Heap := #[{ cls := 7, slots := #[.long 0, .int 1, .null, .int 0, .null, .int 0, .int 0], vm := .statics 7 },
  { cls := 17, slots := #[.long 0, .int 0, .ref 267, .ref 268], vm := .statics 17 },
  { cls := 25, slots := #[.long 0, .int 0, .null, .ref 269, .ref 266, .null, .null, .ref 265, .int 0, .int 1], vm := .statics 25 },
  { cls := 37, slots := #[.ref 6, .null, .int 0], vm := .statics 37 },
  { cls := 38, slots := #[.null, .null, .null], vm := .statics 38 },
  { cls := 40, slots := #[], vm := .mirror 46 },
  { cls := 45, slots := #[.ref 9, .ref 10, .ref 11, .ref 12, .ref 13, .ref 14, .ref 15, .ref 16, .ref 17, .ref 18, .ref 19, .ref 20, .ref 21, .ref 22, .ref 23, .ref 24, .ref 25, .ref 26, .ref 27, .ref 28, .ref 29, .ref 30, .ref 31, .ref 32, .ref 33, .ref 34, .ref 35, .ref 36, .ref 37, .ref 38, .ref 39, .ref 40, .ref 41, .ref 42, .ref 43, .ref 44, .ref 45, .ref 46, .ref 47, .ref 48, .ref 49, .ref 50, .ref 51, .ref 52, .ref 53, .ref 54, .ref 55, .ref 56, .ref 57, .ref 58, .ref 59, .ref 60, .ref 61, .ref 62, .ref 63, .ref 64, .ref 65, .ref 66, .ref 67, .ref 68, .ref 69, .ref 70, .ref 71, .ref 72, .ref 73, .ref 74, .ref 75, .ref 76, .ref 77, .ref 78, .ref 79, .ref 80, .ref 81, .ref 82, .ref 83, .ref 84, .ref 85, .ref 86, .ref 87, .ref 88, .ref 89, .ref 90, .ref 91, .ref 92, .ref 93, .ref 94, .ref 95, .ref 96, .ref 97, .ref 98, .ref 99, .ref 100, .ref 101, .ref 102, .ref 103, .ref 104, .ref 105, .ref 106, .ref 107, .ref 108, .ref 109, .ref 110, .ref 111, .ref 112, .ref 113, .ref 114, .ref 115, .ref 116, .ref 117, .ref 118, .ref 119, .ref 120, .ref 121, .ref 122, .ref 123, .ref 124, .ref 125, .ref 126, .ref 127, .ref 128, .ref 129, .ref 130, .ref 131, .ref 132, .ref 133, .ref 134, .ref 135, .ref 136, .ref 137, .ref 138, .ref 139, .ref 140, .ref 141, .ref 142, .ref 143, .ref 144, .ref 145, .ref 146, .ref 147, .ref 148, .ref 149, .ref 150, .ref 151, .ref 152, .ref 153, .ref 154, .ref 155, .ref 156, .ref 157, .ref 158, .ref 159, .ref 160, .ref 161, .ref 162, .ref 163, .ref 164, .ref 165, .ref 166, .ref 167, .ref 168, .ref 169, .ref 170, .ref 171, .ref 172, .ref 173, .ref 174, .ref 175, .ref 176, .ref 177, .ref 178, .ref 179, .ref 180, .ref 181, .ref 182, .ref 183, .ref 184, .ref 185, .ref 186, .ref 187, .ref 188, .ref 189, .ref 190, .ref 191, .ref 192, .ref 193, .ref 194, .ref 195, .ref 196, .ref 197, .ref 198, .ref 199, .ref 200, .ref 201, .ref 202, .ref 203, .ref 204, .ref 205, .ref 206, .ref 207, .ref 208, .ref 209, .ref 210, .ref 211, .ref 212, .ref 213, .ref 214, .ref 215, .ref 216, .ref 217, .ref 218, .ref 219, .ref 220, .ref 221, .ref 222, .ref 223, .ref 224, .ref 225, .ref 226, .ref 227, .ref 228, .ref 229, .ref 230, .ref 231, .ref 232, .ref 233, .ref 234, .ref 235, .ref 236, .ref 237, .ref 238, .ref 239, .ref 240, .ref 241, .ref 242, .ref 243, .ref 244, .ref 245, .ref 246, .ref 247, .ref 248, .ref 249, .ref 250, .ref 251, .ref 252, .ref 253, .ref 254, .ref 255, .ref 256, .ref 257, .ref 258, .ref 259, .ref 260, .ref 261, .ref 262, .ref 263, .ref 264], vm := .none },
  { cls := 46, slots := #[], vm := .none },
  { cls := 46, slots := #[], vm := .none },
  { cls := 19, slots := #[.long (-128)], vm := .none },
  { cls := 19, slots := #[.long (-127)], vm := .none },
  { cls := 19, slots := #[.long (-126)], vm := .none },
  { cls := 19, slots := #[.long (-125)], vm := .none },
  { cls := 19, slots := #[.long (-124)], vm := .none },
  { cls := 19, slots := #[.long (-123)], vm := .none },
  { cls := 19, slots := #[.long (-122)], vm := .none },
  { cls := 19, slots := #[.long (-121)], vm := .none },
  { cls := 19, slots := #[.long (-120)], vm := .none },
  { cls := 19, slots := #[.long (-119)], vm := .none },
  { cls := 19, slots := #[.long (-118)], vm := .none },
  { cls := 19, slots := #[.long (-117)], vm := .none },
  { cls := 19, slots := #[.long (-116)], vm := .none },
  { cls := 19, slots := #[.long (-115)], vm := .none },
  { cls := 19, slots := #[.long (-114)], vm := .none },
  { cls := 19, slots := #[.long (-113)], vm := .none },
  { cls := 19, slots := #[.long (-112)], vm := .none },
  { cls := 19, slots := #[.long (-111)], vm := .none },
  { cls := 19, slots := #[.long (-110)], vm := .none },
  { cls := 19, slots := #[.long (-109)], vm := .none },
  { cls := 19, slots := #[.long (-108)], vm := .none },
  { cls := 19, slots := #[.long (-107)], vm := .none },
  { cls := 19, slots := #[.long (-106)], vm := .none },
  { cls := 19, slots := #[.long (-105)], vm := .none },
  { cls := 19, slots := #[.long (-104)], vm := .none },
  { cls := 19, slots := #[.long (-103)], vm := .none },
  { cls := 19, slots := #[.long (-102)], vm := .none },
  { cls := 19, slots := #[.long (-101)], vm := .none },
  { cls := 19, slots := #[.long (-100)], vm := .none },
  { cls := 19, slots := #[.long (-99)], vm := .none },
  { cls := 19, slots := #[.long (-98)], vm := .none },
  { cls := 19, slots := #[.long (-97)], vm := .none },
  { cls := 19, slots := #[.long (-96)], vm := .none },
  { cls := 19, slots := #[.long (-95)], vm := .none },
  { cls := 19, slots := #[.long (-94)], vm := .none },
  { cls := 19, slots := #[.long (-93)], vm := .none },
  { cls := 19, slots := #[.long (-92)], vm := .none },
  { cls := 19, slots := #[.long (-91)], vm := .none },
  { cls := 19, slots := #[.long (-90)], vm := .none },
  { cls := 19, slots := #[.long (-89)], vm := .none },
  { cls := 19, slots := #[.long (-88)], vm := .none },
  { cls := 19, slots := #[.long (-87)], vm := .none },
  { cls := 19, slots := #[.long (-86)], vm := .none },
  { cls := 19, slots := #[.long (-85)], vm := .none },
  { cls := 19, slots := #[.long (-84)], vm := .none },
  { cls := 19, slots := #[.long (-83)], vm := .none },
  { cls := 19, slots := #[.long (-82)], vm := .none },
  { cls := 19, slots := #[.long (-81)], vm := .none },
  { cls := 19, slots := #[.long (-80)], vm := .none },
  { cls := 19, slots := #[.long (-79)], vm := .none },
  { cls := 19, slots := #[.long (-78)], vm := .none },
  { cls := 19, slots := #[.long (-77)], vm := .none },
  { cls := 19, slots := #[.long (-76)], vm := .none },
  { cls := 19, slots := #[.long (-75)], vm := .none },
  { cls := 19, slots := #[.long (-74)], vm := .none },
  { cls := 19, slots := #[.long (-73)], vm := .none },
  { cls := 19, slots := #[.long (-72)], vm := .none },
  { cls := 19, slots := #[.long (-71)], vm := .none },
  { cls := 19, slots := #[.long (-70)], vm := .none },
  { cls := 19, slots := #[.long (-69)], vm := .none },
  { cls := 19, slots := #[.long (-68)], vm := .none },
  { cls := 19, slots := #[.long (-67)], vm := .none },
  { cls := 19, slots := #[.long (-66)], vm := .none },
  { cls := 19, slots := #[.long (-65)], vm := .none },
  { cls := 19, slots := #[.long (-64)], vm := .none },
  { cls := 19, slots := #[.long (-63)], vm := .none },
  { cls := 19, slots := #[.long (-62)], vm := .none },
  { cls := 19, slots := #[.long (-61)], vm := .none },
  { cls := 19, slots := #[.long (-60)], vm := .none },
  { cls := 19, slots := #[.long (-59)], vm := .none },
  { cls := 19, slots := #[.long (-58)], vm := .none },
  { cls := 19, slots := #[.long (-57)], vm := .none },
  { cls := 19, slots := #[.long (-56)], vm := .none },
  { cls := 19, slots := #[.long (-55)], vm := .none },
  { cls := 19, slots := #[.long (-54)], vm := .none },
  { cls := 19, slots := #[.long (-53)], vm := .none },
  { cls := 19, slots := #[.long (-52)], vm := .none },
  { cls := 19, slots := #[.long (-51)], vm := .none },
  { cls := 19, slots := #[.long (-50)], vm := .none },
  { cls := 19, slots := #[.long (-49)], vm := .none },
  { cls := 19, slots := #[.long (-48)], vm := .none },
  { cls := 19, slots := #[.long (-47)], vm := .none },
  { cls := 19, slots := #[.long (-46)], vm := .none },
  { cls := 19, slots := #[.long (-45)], vm := .none },
  { cls := 19, slots := #[.long (-44)], vm := .none },
  { cls := 19, slots := #[.long (-43)], vm := .none },
  { cls := 19, slots := #[.long (-42)], vm := .none },
  { cls := 19, slots := #[.long (-41)], vm := .none },
  { cls := 19, slots := #[.long (-40)], vm := .none },
  { cls := 19, slots := #[.long (-39)], vm := .none },
  { cls := 19, slots := #[.long (-38)], vm := .none },
  { cls := 19, slots := #[.long (-37)], vm := .none },
  { cls := 19, slots := #[.long (-36)], vm := .none },
  { cls := 19, slots := #[.long (-35)], vm := .none },
  { cls := 19, slots := #[.long (-34)], vm := .none },
  { cls := 19, slots := #[.long (-33)], vm := .none },
  { cls := 19, slots := #[.long (-32)], vm := .none },
  { cls := 19, slots := #[.long (-31)], vm := .none },
  { cls := 19, slots := #[.long (-30)], vm := .none },
  { cls := 19, slots := #[.long (-29)], vm := .none },
  { cls := 19, slots := #[.long (-28)], vm := .none },
  { cls := 19, slots := #[.long (-27)], vm := .none },
  { cls := 19, slots := #[.long (-26)], vm := .none },
  { cls := 19, slots := #[.long (-25)], vm := .none },
  { cls := 19, slots := #[.long (-24)], vm := .none },
  { cls := 19, slots := #[.long (-23)], vm := .none },
  { cls := 19, slots := #[.long (-22)], vm := .none },
  { cls := 19, slots := #[.long (-21)], vm := .none },
  { cls := 19, slots := #[.long (-20)], vm := .none },
  { cls := 19, slots := #[.long (-19)], vm := .none },
  { cls := 19, slots := #[.long (-18)], vm := .none },
  { cls := 19, slots := #[.long (-17)], vm := .none },
  { cls := 19, slots := #[.long (-16)], vm := .none },
  { cls := 19, slots := #[.long (-15)], vm := .none },
  { cls := 19, slots := #[.long (-14)], vm := .none },
  { cls := 19, slots := #[.long (-13)], vm := .none },
  { cls := 19, slots := #[.long (-12)], vm := .none },
  { cls := 19, slots := #[.long (-11)], vm := .none },
  { cls := 19, slots := #[.long (-10)], vm := .none },
  { cls := 19, slots := #[.long (-9)], vm := .none },
  { cls := 19, slots := #[.long (-8)], vm := .none },
  { cls := 19, slots := #[.long (-7)], vm := .none },
  { cls := 19, slots := #[.long (-6)], vm := .none },
  { cls := 19, slots := #[.long (-5)], vm := .none },
  { cls := 19, slots := #[.long (-4)], vm := .none },
  { cls := 19, slots := #[.long (-3)], vm := .none },
  { cls := 19, slots := #[.long (-2)], vm := .none },
  { cls := 19, slots := #[.long (-1)], vm := .none },
  { cls := 19, slots := #[.long 0], vm := .none },
  { cls := 19, slots := #[.long 1], vm := .none },
  { cls := 19, slots := #[.long 2], vm := .none },
  { cls := 19, slots := #[.long 3], vm := .none },
  { cls := 19, slots := #[.long 4], vm := .none },
  { cls := 19, slots := #[.long 5], vm := .none },
  { cls := 19, slots := #[.long 6], vm := .none },
  { cls := 19, slots := #[.long 7], vm := .none },
  { cls := 19, slots := #[.long 8], vm := .none },
  { cls := 19, slots := #[.long 9], vm := .none },
  { cls := 19, slots := #[.long 10], vm := .none },
  { cls := 19, slots := #[.long 11], vm := .none },
  { cls := 19, slots := #[.long 12], vm := .none },
  { cls := 19, slots := #[.long 13], vm := .none },
  { cls := 19, slots := #[.long 14], vm := .none },
  { cls := 19, slots := #[.long 15], vm := .none },
  { cls := 19, slots := #[.long 16], vm := .none },
  { cls := 19, slots := #[.long 17], vm := .none },
  { cls := 19, slots := #[.long 18], vm := .none },
  { cls := 19, slots := #[.long 19], vm := .none },
  { cls := 19, slots := #[.long 20], vm := .none },
  { cls := 19, slots := #[.long 21], vm := .none },
  { cls := 19, slots := #[.long 22], vm := .none },
  { cls := 19, slots := #[.long 23], vm := .none },
  { cls := 19, slots := #[.long 24], vm := .none },
  { cls := 19, slots := #[.long 25], vm := .none },
  { cls := 19, slots := #[.long 26], vm := .none },
  { cls := 19, slots := #[.long 27], vm := .none },
  { cls := 19, slots := #[.long 28], vm := .none },
  { cls := 19, slots := #[.long 29], vm := .none },
  { cls := 19, slots := #[.long 30], vm := .none },
  { cls := 19, slots := #[.long 31], vm := .none },
  { cls := 19, slots := #[.long 32], vm := .none },
  { cls := 19, slots := #[.long 33], vm := .none },
  { cls := 19, slots := #[.long 34], vm := .none },
  { cls := 19, slots := #[.long 35], vm := .none },
  { cls := 19, slots := #[.long 36], vm := .none },
  { cls := 19, slots := #[.long 37], vm := .none },
  { cls := 19, slots := #[.long 38], vm := .none },
  { cls := 19, slots := #[.long 39], vm := .none },
  { cls := 19, slots := #[.long 40], vm := .none },
  { cls := 19, slots := #[.long 41], vm := .none },
  { cls := 19, slots := #[.long 42], vm := .none },
  { cls := 19, slots := #[.long 43], vm := .none },
  { cls := 19, slots := #[.long 44], vm := .none },
  { cls := 19, slots := #[.long 45], vm := .none },
  { cls := 19, slots := #[.long 46], vm := .none },
  { cls := 19, slots := #[.long 47], vm := .none },
  { cls := 19, slots := #[.long 48], vm := .none },
  { cls := 19, slots := #[.long 49], vm := .none },
  { cls := 19, slots := #[.long 50], vm := .none },
  { cls := 19, slots := #[.long 51], vm := .none },
  { cls := 19, slots := #[.long 52], vm := .none },
  { cls := 19, slots := #[.long 53], vm := .none },
  { cls := 19, slots := #[.long 54], vm := .none },
  { cls := 19, slots := #[.long 55], vm := .none },
  { cls := 19, slots := #[.long 56], vm := .none },
  { cls := 19, slots := #[.long 57], vm := .none },
  { cls := 19, slots := #[.long 58], vm := .none },
  { cls := 19, slots := #[.long 59], vm := .none },
  { cls := 19, slots := #[.long 60], vm := .none },
  { cls := 19, slots := #[.long 61], vm := .none },
  { cls := 19, slots := #[.long 62], vm := .none },
  { cls := 19, slots := #[.long 63], vm := .none },
  { cls := 19, slots := #[.long 64], vm := .none },
  { cls := 19, slots := #[.long 65], vm := .none },
  { cls := 19, slots := #[.long 66], vm := .none },
  { cls := 19, slots := #[.long 67], vm := .none },
  { cls := 19, slots := #[.long 68], vm := .none },
  { cls := 19, slots := #[.long 69], vm := .none },
  { cls := 19, slots := #[.long 70], vm := .none },
  { cls := 19, slots := #[.long 71], vm := .none },
  { cls := 19, slots := #[.long 72], vm := .none },
  { cls := 19, slots := #[.long 73], vm := .none },
  { cls := 19, slots := #[.long 74], vm := .none },
  { cls := 19, slots := #[.long 75], vm := .none },
  { cls := 19, slots := #[.long 76], vm := .none },
  { cls := 19, slots := #[.long 77], vm := .none },
  { cls := 19, slots := #[.long 78], vm := .none },
  { cls := 19, slots := #[.long 79], vm := .none },
  { cls := 19, slots := #[.long 80], vm := .none },
  { cls := 19, slots := #[.long 81], vm := .none },
  { cls := 19, slots := #[.long 82], vm := .none },
  { cls := 19, slots := #[.long 83], vm := .none },
  { cls := 19, slots := #[.long 84], vm := .none },
  { cls := 19, slots := #[.long 85], vm := .none },
  { cls := 19, slots := #[.long 86], vm := .none },
  { cls := 19, slots := #[.long 87], vm := .none },
  { cls := 19, slots := #[.long 88], vm := .none },
  { cls := 19, slots := #[.long 89], vm := .none },
  { cls := 19, slots := #[.long 90], vm := .none },
  { cls := 19, slots := #[.long 91], vm := .none },
  { cls := 19, slots := #[.long 92], vm := .none },
  { cls := 19, slots := #[.long 93], vm := .none },
  { cls := 19, slots := #[.long 94], vm := .none },
  { cls := 19, slots := #[.long 95], vm := .none },
  { cls := 19, slots := #[.long 96], vm := .none },
  { cls := 19, slots := #[.long 97], vm := .none },
  { cls := 19, slots := #[.long 98], vm := .none },
  { cls := 19, slots := #[.long 99], vm := .none },
  { cls := 19, slots := #[.long 100], vm := .none },
  { cls := 19, slots := #[.long 101], vm := .none },
  { cls := 19, slots := #[.long 102], vm := .none },
  { cls := 19, slots := #[.long 103], vm := .none },
  { cls := 19, slots := #[.long 104], vm := .none },
  { cls := 19, slots := #[.long 105], vm := .none },
  { cls := 19, slots := #[.long 106], vm := .none },
  { cls := 19, slots := #[.long 107], vm := .none },
  { cls := 19, slots := #[.long 108], vm := .none },
  { cls := 19, slots := #[.long 109], vm := .none },
  { cls := 19, slots := #[.long 110], vm := .none },
  { cls := 19, slots := #[.long 111], vm := .none },
  { cls := 19, slots := #[.long 112], vm := .none },
  { cls := 19, slots := #[.long 113], vm := .none },
  { cls := 19, slots := #[.long 114], vm := .none },
  { cls := 19, slots := #[.long 115], vm := .none },
  { cls := 19, slots := #[.long 116], vm := .none },
  { cls := 19, slots := #[.long 117], vm := .none },
  { cls := 19, slots := #[.long 118], vm := .none },
  { cls := 19, slots := #[.long 119], vm := .none },
  { cls := 19, slots := #[.long 120], vm := .none },
  { cls := 19, slots := #[.long 121], vm := .none },
  { cls := 19, slots := #[.long 122], vm := .none },
  { cls := 19, slots := #[.long 123], vm := .none },
  { cls := 19, slots := #[.long 124], vm := .none },
  { cls := 19, slots := #[.long 125], vm := .none },
  { cls := 19, slots := #[.long 126], vm := .none },
  { cls := 19, slots := #[.long 127], vm := .none },
  { cls := 33, slots := #[.null, .null, .ref 7, .int 0], vm := .none },
  { cls := 30, slots := #[.ref 8, .int 0], vm := .none },
  { cls := 46, slots := #[], vm := .none },
  { cls := 46, slots := #[], vm := .none },
  { cls := 0, slots := #[], vm := .none }]
def classes : Array Class := #[k0, k1, k2, k3, k4, k5, k6, k7, k8, k9, k10, k11, k12, k13, k14, k15, k16, k17, k18, k19, k20, k21, k22, k23, k24, k25, k26, k27, k28, k29, k30, k31, k32, k33, k34, k35, k36, k37, k38, k39, k40, k41, k42, k43, k44, k45, k46]
def interned : List (Array UInt16 × Addr) := []
def slotsUsed : Nat := 545
def theMethod : MethodId := ⟨1, 1⟩
def args0 : Array Value := #[.int 2, .int 5, .int 1, .int 0, .long 5, .long 7]
def aboutOver (below : List Frame) : State where
  vm := { classes := classes, interned := interned.toArray }
  heap := heap
  slotsUsed := slotsUsed
  threads := #[{ frames := .invoking theMethod args0 :: below }]
def below0 : List Frame := [.native { method := ⟨0, 0⟩, args := #[] }]
def about1 : State := aboutOver below0
def p0 : Program := .bare "" "" ""
def e0 : Env := launch0.env 0 0 0
theorem w_frames : about1.frames = Frame.invoking theMethod args0 :: below0 := rfl
theorem w_args : argsFit about1.vm theMethod args0 = true := by decide +kernel
theorem w_heap : heapFits about1 = true := by decide +kernel
theorem w_runnable : about1.curStatus? = some .runnable := by decide +kernel
theorem w_alone : about1.alone = true := by decide +kernel
theorem w_named : about1.methodNamed? x = some theMethod := by decide +kernel
theorem w_hears : about1.hears theMethod below0 = true := by decide +kernel
theorem w_ripe : about1.ripe theMethod args0 below0 = true := by decide +kernel
theorem w_running : about1.status = .running := rfl
theorem w_room : about1.hasRoom e0.platform room_1 = true :=
  launch0.hasRoom_least _ room_1 (by decide +kernel) (by decide +kernel) (by decide +kernel) (by decide +kernel) (by decide +kernel) (by decide +kernel)
theorem allAtoms_all (ts : List Jvm.Cond) (a : Array Jvm.Value) (st : Jvm.State) : (allAtoms ts).before a st = ts.all (fun c => c.before a st) := by
  induction ts with
  | nil => rfl
  | cons c t ih =>
    show (Jvm.Cond.and c (allAtoms t)).before a st = _
    rw [Jvm.Cond.before_and, ih, List.all_cons]
def words1 : List Jvm.Cond := Jvm.Cond.code x code maxLocals ret :: tables_1
/-- a 'code' word, met by the world's own term for the bytes: nothing is compared byte by byte -/
theorem code_word {y : MethodName} {bytes : ByteArray} {mx : Nat} {rt : Option FieldType} {a : Array Value} {s : State} {m : MethodId} {meth : Method} {c : Code} (h1 : s.methodNamed? y = some m) (h2 : s.vm.method? m = some meth) (h3 : meth.code = some c) (h4 : c.code = bytes)
    (h5 : (c.maxLocals == mx && c.exceptionTable.isEmpty && decide (c.maxStack ≤ mostOperands) && decide (meth.sig.returnType = rt) && !meth.locks && decide (parseMethodDescriptor y.desc = some meth.sig)) = true) : (Jvm.Cond.code y bytes mx rt).before a s = true := by
  simp only [Bool.and_eq_true, beq_iff_eq, Bool.not_eq_true', decide_eq_true_eq] at h5
  obtain ⟨⟨⟨⟨⟨g1, g2⟩, g3⟩, g4⟩, g5⟩, g6⟩ := h5
  simp [Cond.before, Cond.holds, Cond.value, h1, h2, h3, h4, g1, g2, g3, g4, g5, g6]
def isCode : Jvm.Cond → Bool
  | .code _ _ _ _ => true
  | _ => false
theorem all_split {L : List Jvm.Cond} {P : Jvm.Cond → Bool} (h1 : L.all (fun c => isCode c || P c) = true) (h2 : ∀ c ∈ L.filter isCode, P c = true) : L.all P = true := by
  refine List.all_eq_true.mpr fun c hc => ?_
  have h := List.all_eq_true.mp h1 c hc
  rcases Bool.eq_false_or_eq_true (isCode c) with hi | hi
  · exact h2 c (List.mem_filter.mpr ⟨hc, hi⟩)
  · simpa [hi] using h
theorem w_c0 : (Jvm.Cond.code x code maxLocals ret).before args0 about1 = true := code_word (m := ⟨1, 1⟩) (meth := k1m1) (c := k1c1) (by decide +kernel) rfl rfl rfl (by decide +kernel)
theorem w_c1 : (Jvm.Cond.code ({ cls := "java/lang/String", name := "valueOf", desc := "(C)Ljava/lang/String;" } : Jvm.MethodName) jdk_42_method_139_code (1 : Nat) (Option.some (Jvm.ClassFile.FieldType.object "java/lang/String"))).before args0 about1 = true := code_word (m := ⟨7, 1⟩) (meth := k7m1) (c := k7c1) (by decide +kernel) rfl rfl rfl (by decide +kernel)
theorem w_c2 : (Jvm.Cond.code ({ cls := "java/lang/StringLatin1", name := "canEncode", desc := "(C)Z" } : Jvm.MethodName) jdk_43_method_3_code (1 : Nat) (Option.some Jvm.ClassFile.FieldType.boolean)).before args0 about1 = true := code_word (m := ⟨8, 1⟩) (meth := k8m1) (c := k8c1) (by decide +kernel) rfl rfl rfl (by decide +kernel)
theorem w_c3 : (Jvm.Cond.code ({ cls := "java/lang/StringLatin1", name := "toBytes", desc := "(C)[B" } : Jvm.MethodName) jdk_43_method_46_code (1 : Nat) (Option.some (Jvm.ClassFile.FieldType.array Jvm.ClassFile.FieldType.byte))).before args0 about1 = true := code_word (m := ⟨8, 2⟩) (meth := k8m2) (c := k8c2) (by decide +kernel) rfl rfl rfl (by decide +kernel)
theorem w_c4 : (Jvm.Cond.code ({ cls := "java/lang/String", name := "<init>", desc := "([BB)V" } : Jvm.MethodName) jdk_42_method_151_code (3 : Nat) (Option.none : Option Jvm.ClassFile.FieldType)).before args0 about1 = true := code_word (m := ⟨7, 2⟩) (meth := k7m2) (c := k7c2) (by decide +kernel) rfl rfl rfl (by decide +kernel)
theorem w_c5 : (Jvm.Cond.code ({ cls := "java/lang/Object", name := "<init>", desc := "()V" } : Jvm.MethodName) object_method_1_code (1 : Nat) (Option.none : Option Jvm.ClassFile.FieldType)).before args0 about1 = true := code_word (m := ⟨0, 0⟩) (meth := k0m0) (c := k0c0) (by decide +kernel) rfl rfl rfl (by decide +kernel)
theorem w_c6 : (Jvm.Cond.code ({ cls := "java/util/ArrayList", name := "<init>", desc := "()V" } : Jvm.MethodName) jdk_38_method_2_code (1 : Nat) (Option.none : Option Jvm.ClassFile.FieldType)).before args0 about1 = true := code_word (m := ⟨17, 0⟩) (meth := k17m0) (c := k17c0) (by decide +kernel) rfl rfl rfl (by decide +kernel)
theorem w_c7 : (Jvm.Cond.code ({ cls := "java/util/AbstractList", name := "<init>", desc := "()V" } : Jvm.MethodName) jdk_39_method_1_code (1 : Nat) (Option.none : Option Jvm.ClassFile.FieldType)).before args0 about1 = true := code_word (m := ⟨14, 0⟩) (meth := k14m0) (c := k14c0) (by decide +kernel) rfl rfl rfl (by decide +kernel)
theorem w_c8 : (Jvm.Cond.code ({ cls := "java/util/AbstractCollection", name := "<init>", desc := "()V" } : Jvm.MethodName) jdk_22_method_1_code (1 : Nat) (Option.none : Option Jvm.ClassFile.FieldType)).before args0 about1 = true := code_word (m := ⟨11, 0⟩) (meth := k11m0) (c := k11c0) (by decide +kernel) rfl rfl rfl (by decide +kernel)
theorem w_c9 : (Jvm.Cond.code ({ cls := "java/lang/Long", name := "valueOf", desc := "(J)Ljava/lang/Long;" } : Jvm.MethodName) jdk_35_method_24_code (3 : Nat) (Option.some (Jvm.ClassFile.FieldType.object "java/lang/Long"))).before args0 about1 = true := code_word (m := ⟨19, 0⟩) (meth := k19m0) (c := k19c0) (by decide +kernel) rfl rfl rfl (by decide +kernel)
theorem w_c10 : (Jvm.Cond.code ({ cls := "java/lang/Long", name := "<init>", desc := "(J)V" } : Jvm.MethodName) jdk_35_method_26_code (3 : Nat) (Option.none : Option Jvm.ClassFile.FieldType)).before args0 about1 = true := code_word (m := ⟨19, 1⟩) (meth := k19m1) (c := k19c1) (by decide +kernel) rfl rfl rfl (by decide +kernel)
theorem w_c11 : (Jvm.Cond.code ({ cls := "java/lang/Number", name := "<init>", desc := "()V" } : Jvm.MethodName) jdk_18_method_1_code (1 : Nat) (Option.none : Option Jvm.ClassFile.FieldType)).before args0 about1 = true := code_word (m := ⟨18, 0⟩) (meth := k18m0) (c := k18c0) (by decide +kernel) rfl rfl rfl (by decide +kernel)
theorem w_c12 : (Jvm.Cond.code ({ cls := "java/util/ArrayList", name := "add", desc := "(Ljava/lang/Object;)Z" } : Jvm.MethodName) jdk_38_method_25_code (2 : Nat) (Option.some Jvm.ClassFile.FieldType.boolean)).before args0 about1 = true := code_word (m := ⟨17, 6⟩) (meth := k17m6) (c := k17c6) (by decide +kernel) rfl rfl rfl (by decide +kernel)
theorem w_c13 : (Jvm.Cond.code ({ cls := "java/util/ArrayList", name := "add", desc := "(Ljava/lang/Object;[Ljava/lang/Object;I)V" } : Jvm.MethodName) jdk_38_method_24_code (4 : Nat) (Option.none : Option Jvm.ClassFile.FieldType)).before args0 about1 = true := code_word (m := ⟨17, 5⟩) (meth := k17m5) (c := k17c5) (by decide +kernel) rfl rfl rfl (by decide +kernel)
theorem w_c14 : (Jvm.Cond.code ({ cls := "java/util/ArrayList", name := "grow", desc := "()[Ljava/lang/Object;" } : Jvm.MethodName) jdk_38_method_7_code (1 : Nat) (Option.some (Jvm.ClassFile.FieldType.array (Jvm.ClassFile.FieldType.object "java/lang/Object")))).before args0 about1 = true := code_word (m := ⟨17, 2⟩) (meth := k17m2) (c := k17c2) (by decide +kernel) rfl rfl rfl (by decide +kernel)
theorem w_c15 : (Jvm.Cond.code ({ cls := "java/util/ArrayList", name := "grow", desc := "(I)[Ljava/lang/Object;" } : Jvm.MethodName) jdk_38_method_6_code (4 : Nat) (Option.some (Jvm.ClassFile.FieldType.array (Jvm.ClassFile.FieldType.object "java/lang/Object")))).before args0 about1 = true := code_word (m := ⟨17, 1⟩) (meth := k17m1) (c := k17c1) (by decide +kernel) rfl rfl rfl (by decide +kernel)
theorem w_c16 : (Jvm.Cond.code ({ cls := "java/lang/Math", name := "max", desc := "(II)I" } : Jvm.MethodName) jdk_29_method_65_code (2 : Nat) (Option.some Jvm.ClassFile.FieldType.int)).before args0 about1 = true := code_word (m := ⟨20, 1⟩) (meth := k20m1) (c := k20c1) (by decide +kernel) rfl rfl rfl (by decide +kernel)
theorem w_c17 : (Jvm.Cond.code ({ cls := "com/example/arcrover/arcrover/StateMachine", name := "<init>", desc := "(Ljava/lang/String;Ljava/util/List;)V" } : Jvm.MethodName) prog_16_method_2_code (3 : Nat) (Option.none : Option Jvm.ClassFile.FieldType)).before args0 about1 = true := code_word (m := ⟨23, 1⟩) (meth := k23m1) (c := k23c1) (by decide +kernel) rfl rfl rfl (by decide +kernel)
theorem w_c18 : (Jvm.Cond.code ({ cls := "java/util/Map", name := "of", desc := "()Ljava/util/Map;" } : Jvm.MethodName) jdk_72_method_26_code (0 : Nat) (Option.some (Jvm.ClassFile.FieldType.object "java/util/Map"))).before args0 about1 = true := code_word (m := ⟨24, 1⟩) (meth := k24m1) (c := k24c1) (by decide +kernel) rfl rfl rfl (by decide +kernel)
theorem w_c19 : (Jvm.Cond.code ({ cls := "com/example/arcrover/arcrover/StateMachine", name := "<init>", desc := "(Ljava/lang/String;Ljava/util/List;Ljava/util/Map;)V" } : Jvm.MethodName) prog_16_method_1_code (4 : Nat) (Option.none : Option Jvm.ClassFile.FieldType)).before args0 about1 = true := code_word (m := ⟨23, 0⟩) (meth := k23m0) (c := k23c0) (by decide +kernel) rfl rfl rfl (by decide +kernel)
theorem w_c20 : (Jvm.Cond.code ({ cls := "java/lang/Record", name := "<init>", desc := "()V" } : Jvm.MethodName) jdk_30_method_1_code (1 : Nat) (Option.none : Option Jvm.ClassFile.FieldType)).before args0 about1 = true := code_word (m := ⟨21, 0⟩) (meth := k21m0) (c := k21c0) (by decide +kernel) rfl rfl rfl (by decide +kernel)
theorem w_c21 : (Jvm.Cond.code ({ cls := "java/util/Objects", name := "requireNonNull", desc := "(Ljava/lang/Object;Ljava/lang/String;)Ljava/lang/Object;" } : Jvm.MethodName) jdk_31_method_11_code (2 : Nat) (Option.some (Jvm.ClassFile.FieldType.object "java/lang/Object"))).before args0 about1 = true := code_word (m := ⟨26, 2⟩) (meth := k26m2) (c := k26c2) (by decide +kernel) rfl rfl rfl (by decide +kernel)
theorem w_c22 : (Jvm.Cond.code ({ cls := "java/util/List", name := "copyOf", desc := "(Ljava/util/Collection;)Ljava/util/List;" } : Jvm.MethodName) jdk_40_method_48_code (1 : Nat) (Option.some (Jvm.ClassFile.FieldType.object "java/util/List"))).before args0 about1 = true := code_word (m := ⟨13, 4⟩) (meth := k13m4) (c := k13c4) (by decide +kernel) rfl rfl rfl (by decide +kernel)
theorem w_c23 : (Jvm.Cond.code ({ cls := "java/util/ImmutableCollections", name := "listCopy", desc := "(Ljava/util/Collection;)Ljava/util/List;" } : Jvm.MethodName) jdk_56_method_3_code (2 : Nat) (Option.some (Jvm.ClassFile.FieldType.object "java/util/List"))).before args0 about1 = true := code_word (m := ⟨25, 1⟩) (meth := k25m1) (c := k25c1) (by decide +kernel) rfl rfl rfl (by decide +kernel)
theorem w_c24 : (Jvm.Cond.code ({ cls := "java/util/ArrayList", name := "isEmpty", desc := "()Z" } : Jvm.MethodName) jdk_38_method_9_code (1 : Nat) (Option.some Jvm.ClassFile.FieldType.boolean)).before args0 about1 = true := code_word (m := ⟨17, 3⟩) (meth := k17m3) (c := k17c3) (by decide +kernel) rfl rfl rfl (by decide +kernel)
theorem w_c25 : (Jvm.Cond.code ({ cls := "java/util/List", name := "of", desc := "()Ljava/util/List;" } : Jvm.MethodName) jdk_40_method_36_code (0 : Nat) (Option.some (Jvm.ClassFile.FieldType.object "java/util/List"))).before args0 about1 = true := code_word (m := ⟨13, 2⟩) (meth := k13m2) (c := k13c2) (by decide +kernel) rfl rfl rfl (by decide +kernel)
theorem w_c26 : (Jvm.Cond.code ({ cls := "java/util/Map", name := "copyOf", desc := "(Ljava/util/Map;)Ljava/util/Map;" } : Jvm.MethodName) jdk_72_method_39_code (1 : Nat) (Option.some (Jvm.ClassFile.FieldType.object "java/util/Map"))).before args0 about1 = true := code_word (m := ⟨24, 2⟩) (meth := k24m2) (c := k24c2) (by decide +kernel) rfl rfl rfl (by decide +kernel)
theorem w_c27 : (Jvm.Cond.code ({ cls := "java/util/ImmutableCollections$MapN", name := "isEmpty", desc := "()Z" } : Jvm.MethodName) jdk_2605_method_7_code (1 : Nat) (Option.some Jvm.ClassFile.FieldType.boolean)).before args0 about1 = true := code_word (m := ⟨33, 0⟩) (meth := k33m0) (c := k33c0) (by decide +kernel) rfl rfl rfl (by decide +kernel)
theorem w_c28 : (Jvm.Cond.code ({ cls := "com/example/arcrover/arcrover/Exploration", name := "<init>", desc := "(Lcom/example/arcrover/arcrover/StateMachine;IIJJLjava/util/List;Lcom/example/arcrover/arcrover/Verdict;Lcom/example/arcrover/arcrover/Witness;Ljava/util/List;)V" } : Jvm.MethodName) prog_2_method_1_code (12 : Nat) (Option.none : Option Jvm.ClassFile.FieldType)).before args0 about1 = true := code_word (m := ⟨22, 0⟩) (meth := k22m0) (c := k22c0) (by decide +kernel) rfl rfl rfl (by decide +kernel)
theorem w_c29 : (Jvm.Cond.code ({ cls := "java/util/ArrayList", name := "toArray", desc := "()[Ljava/lang/Object;" } : Jvm.MethodName) jdk_38_method_16_code (1 : Nat) (Option.some (Jvm.ClassFile.FieldType.array (Jvm.ClassFile.FieldType.object "java/lang/Object")))).before args0 about1 = true := code_word (m := ⟨17, 4⟩) (meth := k17m4) (c := k17c4) (by decide +kernel) rfl rfl rfl (by decide +kernel)
theorem w_c30 : (Jvm.Cond.code ({ cls := "java/util/Arrays", name := "copyOf", desc := "([Ljava/lang/Object;I)[Ljava/lang/Object;" } : Jvm.MethodName) jdk_65_method_119_code (2 : Nat) (Option.some (Jvm.ClassFile.FieldType.array (Jvm.ClassFile.FieldType.object "java/lang/Object")))).before args0 about1 = true := code_word (m := ⟨34, 1⟩) (meth := k34m1) (c := k34c1) (by decide +kernel) rfl rfl rfl (by decide +kernel)
theorem w_c31 : (Jvm.Cond.code ({ cls := "java/util/Arrays", name := "copyOf", desc := "([Ljava/lang/Object;ILjava/lang/Class;)[Ljava/lang/Object;" } : Jvm.MethodName) jdk_65_method_120_code (4 : Nat) (Option.some (Jvm.ClassFile.FieldType.array (Jvm.ClassFile.FieldType.object "java/lang/Object")))).before args0 about1 = true := code_word (m := ⟨34, 2⟩) (meth := k34m2) (c := k34c2) (by decide +kernel) rfl rfl rfl (by decide +kernel)
theorem w_c32 : (Jvm.Cond.code ({ cls := "java/lang/Math", name := "min", desc := "(II)I" } : Jvm.MethodName) jdk_29_method_69_code (2 : Nat) (Option.some Jvm.ClassFile.FieldType.int)).before args0 about1 = true := code_word (m := ⟨20, 2⟩) (meth := k20m2) (c := k20c2) (by decide +kernel) rfl rfl rfl (by decide +kernel)
theorem w_c33 : (Jvm.Cond.code ({ cls := "java/util/List", name := "of", desc := "([Ljava/lang/Object;)Ljava/util/List;" } : Jvm.MethodName) jdk_40_method_47_code (2 : Nat) (Option.some (Jvm.ClassFile.FieldType.object "java/util/List"))).before args0 about1 = true := code_word (m := ⟨13, 3⟩) (meth := k13m3) (c := k13c3) (by decide +kernel) rfl rfl rfl (by decide +kernel)
theorem w_c34 : (Jvm.Cond.code ({ cls := "java/util/ImmutableCollections$List12", name := "<init>", desc := "(Ljava/lang/Object;)V" } : Jvm.MethodName) jdk_44_method_1_code (2 : Nat) (Option.none : Option Jvm.ClassFile.FieldType)).before args0 about1 = true := code_word (m := ⟨29, 0⟩) (meth := k29m0) (c := k29c0) (by decide +kernel) rfl rfl rfl (by decide +kernel)
theorem w_c35 : (Jvm.Cond.code ({ cls := "java/util/ImmutableCollections$AbstractImmutableList", name := "<init>", desc := "()V" } : Jvm.MethodName) jdk_46_method_1_code (1 : Nat) (Option.none : Option Jvm.ClassFile.FieldType)).before args0 about1 = true := code_word (m := ⟨28, 0⟩) (meth := k28m0) (c := k28c0) (by decide +kernel) rfl rfl rfl (by decide +kernel)
theorem w_c36 : (Jvm.Cond.code ({ cls := "java/util/ImmutableCollections$AbstractImmutableCollection", name := "<init>", desc := "()V" } : Jvm.MethodName) jdk_47_method_1_code (1 : Nat) (Option.none : Option Jvm.ClassFile.FieldType)).before args0 about1 = true := code_word (m := ⟨27, 0⟩) (meth := k27m0) (c := k27c0) (by decide +kernel) rfl rfl rfl (by decide +kernel)
theorem w_c37 : (Jvm.Cond.code ({ cls := "java/util/Objects", name := "requireNonNull", desc := "(Ljava/lang/Object;)Ljava/lang/Object;" } : Jvm.MethodName) jdk_31_method_10_code (1 : Nat) (Option.some (Jvm.ClassFile.FieldType.object "java/lang/Object"))).before args0 about1 = true := code_word (m := ⟨26, 1⟩) (meth := k26m1) (c := k26c1) (by decide +kernel) rfl rfl rfl (by decide +kernel)
theorem w_c38 : (Jvm.Cond.code ({ cls := "com/example/arcrover/arcrover/Exploration", name := "transitions", desc := "()I" } : Jvm.MethodName) prog_2_method_2_code (1 : Nat) (Option.some Jvm.ClassFile.FieldType.int)).before args0 about1 = true := code_word (m := ⟨22, 1⟩) (meth := k22m1) (c := k22c1) (by decide +kernel) rfl rfl rfl (by decide +kernel)
theorem w_c39 : (Jvm.Cond.code ({ cls := "com/example/arcrover/arcrover/StateMachine", name := "transitions", desc := "()Ljava/util/List;" } : Jvm.MethodName) prog_16_method_8_code (1 : Nat) (Option.some (Jvm.ClassFile.FieldType.object "java/util/List"))).before args0 about1 = true := code_word (m := ⟨23, 2⟩) (meth := k23m2) (c := k23c2) (by decide +kernel) rfl rfl rfl (by decide +kernel)
theorem w_c40 : (Jvm.Cond.code ({ cls := "java/util/ImmutableCollections$ListN", name := "size", desc := "()I" } : Jvm.MethodName) jdk_45_method_3_code (1 : Nat) (Option.some Jvm.ClassFile.FieldType.int)).before args0 about1 = true := code_word (m := ⟨30, 1⟩) (meth := k30m1) (c := k30c1) (by decide +kernel) rfl rfl rfl (by decide +kernel)
theorem w_c41 : (Jvm.Cond.code ({ cls := "com/example/arcrover/arcrover/Transition", name := "<init>", desc := "(Ljava/lang/String;Ljava/lang/String;Ljava/lang/String;Ljava/lang/String;)V" } : Jvm.MethodName) prog_19_method_1_code (5 : Nat) (Option.none : Option Jvm.ClassFile.FieldType)).before args0 about1 = true := code_word (m := ⟨36, 0⟩) (meth := k36m0) (c := k36c0) (by decide +kernel) rfl rfl rfl (by decide +kernel)
theorem w_c42 : (Jvm.Cond.code ({ cls := "java/util/ImmutableCollections", name := "listFromArray", desc := "([Ljava/lang/Object;)Ljava/util/List;" } : Jvm.MethodName) jdk_56_method_4_code (3 : Nat) (Option.some (Jvm.ClassFile.FieldType.object "java/util/List"))).before args0 about1 = true := code_word (m := ⟨25, 2⟩) (meth := k25m2) (c := k25c2) (by decide +kernel) rfl rfl rfl (by decide +kernel)
theorem w_c43 : (Jvm.Cond.code ({ cls := "java/util/ImmutableCollections$ListN", name := "<init>", desc := "([Ljava/lang/Object;Z)V" } : Jvm.MethodName) jdk_45_method_1_code (3 : Nat) (Option.none : Option Jvm.ClassFile.FieldType)).before args0 about1 = true := code_word (m := ⟨30, 0⟩) (meth := k30m0) (c := k30c0) (by decide +kernel) rfl rfl rfl (by decide +kernel)
theorem w_c44 : (Jvm.Cond.code ({ cls := "java/util/ImmutableCollections$List12", name := "<init>", desc := "(Ljava/lang/Object;Ljava/lang/Object;)V" } : Jvm.MethodName) jdk_44_method_2_code (3 : Nat) (Option.none : Option Jvm.ClassFile.FieldType)).before args0 about1 = true := code_word (m := ⟨29, 1⟩) (meth := k29m1) (c := k29c1) (by decide +kernel) rfl rfl rfl (by decide +kernel)
theorem w_c45 : (Jvm.Cond.code ({ cls := "java/util/ImmutableCollections$List12", name := "size", desc := "()I" } : Jvm.MethodName) jdk_44_method_3_code (1 : Nat) (Option.some Jvm.ClassFile.FieldType.int)).before args0 about1 = true := code_word (m := ⟨29, 2⟩) (meth := k29m2) (c := k29c2) (by decide +kernel) rfl rfl rfl (by decide +kernel)
def codes1 : List Jvm.Cond := [Jvm.Cond.code x code maxLocals ret, Jvm.Cond.code ({ cls := "java/lang/String", name := "valueOf", desc := "(C)Ljava/lang/String;" } : Jvm.MethodName) jdk_42_method_139_code (1 : Nat) (Option.some (Jvm.ClassFile.FieldType.object "java/lang/String")), Jvm.Cond.code ({ cls := "java/lang/StringLatin1", name := "canEncode", desc := "(C)Z" } : Jvm.MethodName) jdk_43_method_3_code (1 : Nat) (Option.some Jvm.ClassFile.FieldType.boolean), Jvm.Cond.code ({ cls := "java/lang/StringLatin1", name := "toBytes", desc := "(C)[B" } : Jvm.MethodName) jdk_43_method_46_code (1 : Nat) (Option.some (Jvm.ClassFile.FieldType.array Jvm.ClassFile.FieldType.byte)), Jvm.Cond.code ({ cls := "java/lang/String", name := "<init>", desc := "([BB)V" } : Jvm.MethodName) jdk_42_method_151_code (3 : Nat) (Option.none : Option Jvm.ClassFile.FieldType), Jvm.Cond.code ({ cls := "java/lang/Object", name := "<init>", desc := "()V" } : Jvm.MethodName) object_method_1_code (1 : Nat) (Option.none : Option Jvm.ClassFile.FieldType), Jvm.Cond.code ({ cls := "java/util/ArrayList", name := "<init>", desc := "()V" } : Jvm.MethodName) jdk_38_method_2_code (1 : Nat) (Option.none : Option Jvm.ClassFile.FieldType), Jvm.Cond.code ({ cls := "java/util/AbstractList", name := "<init>", desc := "()V" } : Jvm.MethodName) jdk_39_method_1_code (1 : Nat) (Option.none : Option Jvm.ClassFile.FieldType), Jvm.Cond.code ({ cls := "java/util/AbstractCollection", name := "<init>", desc := "()V" } : Jvm.MethodName) jdk_22_method_1_code (1 : Nat) (Option.none : Option Jvm.ClassFile.FieldType), Jvm.Cond.code ({ cls := "java/lang/Long", name := "valueOf", desc := "(J)Ljava/lang/Long;" } : Jvm.MethodName) jdk_35_method_24_code (3 : Nat) (Option.some (Jvm.ClassFile.FieldType.object "java/lang/Long")), Jvm.Cond.code ({ cls := "java/lang/Long", name := "<init>", desc := "(J)V" } : Jvm.MethodName) jdk_35_method_26_code (3 : Nat) (Option.none : Option Jvm.ClassFile.FieldType), Jvm.Cond.code ({ cls := "java/lang/Number", name := "<init>", desc := "()V" } : Jvm.MethodName) jdk_18_method_1_code (1 : Nat) (Option.none : Option Jvm.ClassFile.FieldType), Jvm.Cond.code ({ cls := "java/util/ArrayList", name := "add", desc := "(Ljava/lang/Object;)Z" } : Jvm.MethodName) jdk_38_method_25_code (2 : Nat) (Option.some Jvm.ClassFile.FieldType.boolean), Jvm.Cond.code ({ cls := "java/util/ArrayList", name := "add", desc := "(Ljava/lang/Object;[Ljava/lang/Object;I)V" } : Jvm.MethodName) jdk_38_method_24_code (4 : Nat) (Option.none : Option Jvm.ClassFile.FieldType), Jvm.Cond.code ({ cls := "java/util/ArrayList", name := "grow", desc := "()[Ljava/lang/Object;" } : Jvm.MethodName) jdk_38_method_7_code (1 : Nat) (Option.some (Jvm.ClassFile.FieldType.array (Jvm.ClassFile.FieldType.object "java/lang/Object"))), Jvm.Cond.code ({ cls := "java/util/ArrayList", name := "grow", desc := "(I)[Ljava/lang/Object;" } : Jvm.MethodName) jdk_38_method_6_code (4 : Nat) (Option.some (Jvm.ClassFile.FieldType.array (Jvm.ClassFile.FieldType.object "java/lang/Object"))), Jvm.Cond.code ({ cls := "java/lang/Math", name := "max", desc := "(II)I" } : Jvm.MethodName) jdk_29_method_65_code (2 : Nat) (Option.some Jvm.ClassFile.FieldType.int), Jvm.Cond.code ({ cls := "com/example/arcrover/arcrover/StateMachine", name := "<init>", desc := "(Ljava/lang/String;Ljava/util/List;)V" } : Jvm.MethodName) prog_16_method_2_code (3 : Nat) (Option.none : Option Jvm.ClassFile.FieldType), Jvm.Cond.code ({ cls := "java/util/Map", name := "of", desc := "()Ljava/util/Map;" } : Jvm.MethodName) jdk_72_method_26_code (0 : Nat) (Option.some (Jvm.ClassFile.FieldType.object "java/util/Map")), Jvm.Cond.code ({ cls := "com/example/arcrover/arcrover/StateMachine", name := "<init>", desc := "(Ljava/lang/String;Ljava/util/List;Ljava/util/Map;)V" } : Jvm.MethodName) prog_16_method_1_code (4 : Nat) (Option.none : Option Jvm.ClassFile.FieldType), Jvm.Cond.code ({ cls := "java/lang/Record", name := "<init>", desc := "()V" } : Jvm.MethodName) jdk_30_method_1_code (1 : Nat) (Option.none : Option Jvm.ClassFile.FieldType), Jvm.Cond.code ({ cls := "java/util/Objects", name := "requireNonNull", desc := "(Ljava/lang/Object;Ljava/lang/String;)Ljava/lang/Object;" } : Jvm.MethodName) jdk_31_method_11_code (2 : Nat) (Option.some (Jvm.ClassFile.FieldType.object "java/lang/Object")), Jvm.Cond.code ({ cls := "java/util/List", name := "copyOf", desc := "(Ljava/util/Collection;)Ljava/util/List;" } : Jvm.MethodName) jdk_40_method_48_code (1 : Nat) (Option.some (Jvm.ClassFile.FieldType.object "java/util/List")), Jvm.Cond.code ({ cls := "java/util/ImmutableCollections", name := "listCopy", desc := "(Ljava/util/Collection;)Ljava/util/List;" } : Jvm.MethodName) jdk_56_method_3_code (2 : Nat) (Option.some (Jvm.ClassFile.FieldType.object "java/util/List")), Jvm.Cond.code ({ cls := "java/util/ArrayList", name := "isEmpty", desc := "()Z" } : Jvm.MethodName) jdk_38_method_9_code (1 : Nat) (Option.some Jvm.ClassFile.FieldType.boolean), Jvm.Cond.code ({ cls := "java/util/List", name := "of", desc := "()Ljava/util/List;" } : Jvm.MethodName) jdk_40_method_36_code (0 : Nat) (Option.some (Jvm.ClassFile.FieldType.object "java/util/List")), Jvm.Cond.code ({ cls := "java/util/Map", name := "copyOf", desc := "(Ljava/util/Map;)Ljava/util/Map;" } : Jvm.MethodName) jdk_72_method_39_code (1 : Nat) (Option.some (Jvm.ClassFile.FieldType.object "java/util/Map")), Jvm.Cond.code ({ cls := "java/util/ImmutableCollections$MapN", name := "isEmpty", desc := "()Z" } : Jvm.MethodName) jdk_2605_method_7_code (1 : Nat) (Option.some Jvm.ClassFile.FieldType.boolean), Jvm.Cond.code ({ cls := "com/example/arcrover/arcrover/Exploration", name := "<init>", desc := "(Lcom/example/arcrover/arcrover/StateMachine;IIJJLjava/util/List;Lcom/example/arcrover/arcrover/Verdict;Lcom/example/arcrover/arcrover/Witness;Ljava/util/List;)V" } : Jvm.MethodName) prog_2_method_1_code (12 : Nat) (Option.none : Option Jvm.ClassFile.FieldType), Jvm.Cond.code ({ cls := "java/util/ArrayList", name := "toArray", desc := "()[Ljava/lang/Object;" } : Jvm.MethodName) jdk_38_method_16_code (1 : Nat) (Option.some (Jvm.ClassFile.FieldType.array (Jvm.ClassFile.FieldType.object "java/lang/Object"))), Jvm.Cond.code ({ cls := "java/util/Arrays", name := "copyOf", desc := "([Ljava/lang/Object;I)[Ljava/lang/Object;" } : Jvm.MethodName) jdk_65_method_119_code (2 : Nat) (Option.some (Jvm.ClassFile.FieldType.array (Jvm.ClassFile.FieldType.object "java/lang/Object"))), Jvm.Cond.code ({ cls := "java/util/Arrays", name := "copyOf", desc := "([Ljava/lang/Object;ILjava/lang/Class;)[Ljava/lang/Object;" } : Jvm.MethodName) jdk_65_method_120_code (4 : Nat) (Option.some (Jvm.ClassFile.FieldType.array (Jvm.ClassFile.FieldType.object "java/lang/Object"))), Jvm.Cond.code ({ cls := "java/lang/Math", name := "min", desc := "(II)I" } : Jvm.MethodName) jdk_29_method_69_code (2 : Nat) (Option.some Jvm.ClassFile.FieldType.int), Jvm.Cond.code ({ cls := "java/util/List", name := "of", desc := "([Ljava/lang/Object;)Ljava/util/List;" } : Jvm.MethodName) jdk_40_method_47_code (2 : Nat) (Option.some (Jvm.ClassFile.FieldType.object "java/util/List")), Jvm.Cond.code ({ cls := "java/util/ImmutableCollections$List12", name := "<init>", desc := "(Ljava/lang/Object;)V" } : Jvm.MethodName) jdk_44_method_1_code (2 : Nat) (Option.none : Option Jvm.ClassFile.FieldType), Jvm.Cond.code ({ cls := "java/util/ImmutableCollections$AbstractImmutableList", name := "<init>", desc := "()V" } : Jvm.MethodName) jdk_46_method_1_code (1 : Nat) (Option.none : Option Jvm.ClassFile.FieldType), Jvm.Cond.code ({ cls := "java/util/ImmutableCollections$AbstractImmutableCollection", name := "<init>", desc := "()V" } : Jvm.MethodName) jdk_47_method_1_code (1 : Nat) (Option.none : Option Jvm.ClassFile.FieldType), Jvm.Cond.code ({ cls := "java/util/Objects", name := "requireNonNull", desc := "(Ljava/lang/Object;)Ljava/lang/Object;" } : Jvm.MethodName) jdk_31_method_10_code (1 : Nat) (Option.some (Jvm.ClassFile.FieldType.object "java/lang/Object")), Jvm.Cond.code ({ cls := "com/example/arcrover/arcrover/Exploration", name := "transitions", desc := "()I" } : Jvm.MethodName) prog_2_method_2_code (1 : Nat) (Option.some Jvm.ClassFile.FieldType.int), Jvm.Cond.code ({ cls := "com/example/arcrover/arcrover/StateMachine", name := "transitions", desc := "()Ljava/util/List;" } : Jvm.MethodName) prog_16_method_8_code (1 : Nat) (Option.some (Jvm.ClassFile.FieldType.object "java/util/List")), Jvm.Cond.code ({ cls := "java/util/ImmutableCollections$ListN", name := "size", desc := "()I" } : Jvm.MethodName) jdk_45_method_3_code (1 : Nat) (Option.some Jvm.ClassFile.FieldType.int), Jvm.Cond.code ({ cls := "com/example/arcrover/arcrover/Transition", name := "<init>", desc := "(Ljava/lang/String;Ljava/lang/String;Ljava/lang/String;Ljava/lang/String;)V" } : Jvm.MethodName) prog_19_method_1_code (5 : Nat) (Option.none : Option Jvm.ClassFile.FieldType), Jvm.Cond.code ({ cls := "java/util/ImmutableCollections", name := "listFromArray", desc := "([Ljava/lang/Object;)Ljava/util/List;" } : Jvm.MethodName) jdk_56_method_4_code (3 : Nat) (Option.some (Jvm.ClassFile.FieldType.object "java/util/List")), Jvm.Cond.code ({ cls := "java/util/ImmutableCollections$ListN", name := "<init>", desc := "([Ljava/lang/Object;Z)V" } : Jvm.MethodName) jdk_45_method_1_code (3 : Nat) (Option.none : Option Jvm.ClassFile.FieldType), Jvm.Cond.code ({ cls := "java/util/ImmutableCollections$List12", name := "<init>", desc := "(Ljava/lang/Object;Ljava/lang/Object;)V" } : Jvm.MethodName) jdk_44_method_2_code (3 : Nat) (Option.none : Option Jvm.ClassFile.FieldType), Jvm.Cond.code ({ cls := "java/util/ImmutableCollections$List12", name := "size", desc := "()I" } : Jvm.MethodName) jdk_44_method_3_code (1 : Nat) (Option.some Jvm.ClassFile.FieldType.int)]
theorem codes_eq : words1.filter isCode = codes1 := rfl
theorem w_codes : ∀ c ∈ words1.filter isCode, c.before args0 about1 = true := by
  rw [codes_eq]
  intro c hc
  simp only [codes1, List.mem_cons, List.not_mem_nil, or_false] at hc
  rcases hc with rfl | rfl | rfl | rfl | rfl | rfl | rfl | rfl | rfl | rfl | rfl | rfl | rfl | rfl | rfl | rfl | rfl | rfl | rfl | rfl | rfl | rfl | rfl | rfl | rfl | rfl | rfl | rfl | rfl | rfl | rfl | rfl | rfl | rfl | rfl | rfl | rfl | rfl | rfl | rfl | rfl | rfl | rfl | rfl | rfl | rfl
  · exact w_c0
  · exact w_c1
  · exact w_c2
  · exact w_c3
  · exact w_c4
  · exact w_c5
  · exact w_c6
  · exact w_c7
  · exact w_c8
  · exact w_c9
  · exact w_c10
  · exact w_c11
  · exact w_c12
  · exact w_c13
  · exact w_c14
  · exact w_c15
  · exact w_c16
  · exact w_c17
  · exact w_c18
  · exact w_c19
  · exact w_c20
  · exact w_c21
  · exact w_c22
  · exact w_c23
  · exact w_c24
  · exact w_c25
  · exact w_c26
  · exact w_c27
  · exact w_c28
  · exact w_c29
  · exact w_c30
  · exact w_c31
  · exact w_c32
  · exact w_c33
  · exact w_c34
  · exact w_c35
  · exact w_c36
  · exact w_c37
  · exact w_c38
  · exact w_c39
  · exact w_c40
  · exact w_c41
  · exact w_c42
  · exact w_c43
  · exact w_c44
  · exact w_c45
theorem w_t1 : (words1.take 24).all (fun c => isCode c || c.before args0 about1) = true := by decide +kernel
theorem w_t2 : ((words1.drop 24).take 24).all (fun c => isCode c || c.before args0 about1) = true := by decide +kernel
theorem w_t3 : (((words1.drop 24).drop 24).take 24).all (fun c => isCode c || c.before args0 about1) = true := by decide +kernel
theorem w_t4 : ((((words1.drop 24).drop 24).drop 24).take 24).all (fun c => isCode c || c.before args0 about1) = true := by decide +kernel
theorem w_t5 : (((((words1.drop 24).drop 24).drop 24).drop 24).take 24).all (fun c => isCode c || c.before args0 about1) = true := by decide +kernel
theorem w_t6 : ((((((words1.drop 24).drop 24).drop 24).drop 24).drop 24).take 24).all (fun c => isCode c || c.before args0 about1) = true := by decide +kernel
theorem w_t7 : (((((((words1.drop 24).drop 24).drop 24).drop 24).drop 24).drop 24).take 24).all (fun c => isCode c || c.before args0 about1) = true := by decide +kernel
theorem w_t8 : ((((((((words1.drop 24).drop 24).drop 24).drop 24).drop 24).drop 24).drop 24).take 24).all (fun c => isCode c || c.before args0 about1) = true := by decide +kernel
theorem w_t9 : (((((((((words1.drop 24).drop 24).drop 24).drop 24).drop 24).drop 24).drop 24).drop 24).take 24).all (fun c => isCode c || c.before args0 about1) = true := by decide +kernel
theorem w_t10 : ((((((((((words1.drop 24).drop 24).drop 24).drop 24).drop 24).drop 24).drop 24).drop 24).drop 24).take 24).all (fun c => isCode c || c.before args0 about1) = true := by decide +kernel
theorem w_t11 : (((((((((((words1.drop 24).drop 24).drop 24).drop 24).drop 24).drop 24).drop 24).drop 24).drop 24).drop 24).take 24).all (fun c => isCode c || c.before args0 about1) = true := by decide +kernel
theorem w_t12 : ((((((((((((words1.drop 24).drop 24).drop 24).drop 24).drop 24).drop 24).drop 24).drop 24).drop 24).drop 24).drop 24).take 24).all (fun c => isCode c || c.before args0 about1) = true := by decide +kernel
theorem w_t13 : (((((((((((((words1.drop 24).drop 24).drop 24).drop 24).drop 24).drop 24).drop 24).drop 24).drop 24).drop 24).drop 24).drop 24).take 24).all (fun c => isCode c || c.before args0 about1) = true := by decide +kernel
theorem w_t14 : ((((((((((((((words1.drop 24).drop 24).drop 24).drop 24).drop 24).drop 24).drop 24).drop 24).drop 24).drop 24).drop 24).drop 24).drop 24).take 24).all (fun c => isCode c || c.before args0 about1) = true := by decide +kernel
theorem w_t15 : ((((((((((((((words1.drop 24).drop 24).drop 24).drop 24).drop 24).drop 24).drop 24).drop 24).drop 24).drop 24).drop 24).drop 24).drop 24).drop 24).all (fun c => isCode c || c.before args0 about1) = true := by decide +kernel
theorem w_tables : (allAtoms (Jvm.Cond.code x code maxLocals ret :: tables_1)).before args0 about1 = true := by
  rw [allAtoms_all]
  show words1.all (fun c => c.before args0 about1) = true
  refine all_split ?_ w_codes
  rw [← List.take_append_drop 24 words1, List.all_append, w_t1, ← List.take_append_drop 24 (words1.drop 24), List.all_append, w_t2, ← List.take_append_drop 24 ((words1.drop 24).drop 24), List.all_append, w_t3, ← List.take_append_drop 24 (((words1.drop 24).drop 24).drop 24), List.all_append, w_t4, ← List.take_append_drop 24 ((((words1.drop 24).drop 24).drop 24).drop 24), List.all_append, w_t5, ← List.take_append_drop 24 (((((words1.drop 24).drop 24).drop 24).drop 24).drop 24), List.all_append, w_t6, ← List.take_append_drop 24 ((((((words1.drop 24).drop 24).drop 24).drop 24).drop 24).drop 24), List.all_append, w_t7, ← List.take_append_drop 24 (((((((words1.drop 24).drop 24).drop 24).drop 24).drop 24).drop 24).drop 24), List.all_append, w_t8, ← List.take_append_drop 24 ((((((((words1.drop 24).drop 24).drop 24).drop 24).drop 24).drop 24).drop 24).drop 24), List.all_append, w_t9, ← List.take_append_drop 24 (((((((((words1.drop 24).drop 24).drop 24).drop 24).drop 24).drop 24).drop 24).drop 24).drop 24), List.all_append, w_t10, ← List.take_append_drop 24 ((((((((((words1.drop 24).drop 24).drop 24).drop 24).drop 24).drop 24).drop 24).drop 24).drop 24).drop 24), List.all_append, w_t11, ← List.take_append_drop 24 (((((((((((words1.drop 24).drop 24).drop 24).drop 24).drop 24).drop 24).drop 24).drop 24).drop 24).drop 24).drop 24), List.all_append, w_t12, ← List.take_append_drop 24 ((((((((((((words1.drop 24).drop 24).drop 24).drop 24).drop 24).drop 24).drop 24).drop 24).drop 24).drop 24).drop 24).drop 24), List.all_append, w_t13, ← List.take_append_drop 24 (((((((((((((words1.drop 24).drop 24).drop 24).drop 24).drop 24).drop 24).drop 24).drop 24).drop 24).drop 24).drop 24).drop 24).drop 24), List.all_append, w_t14, w_t15]
  rfl
theorem w_rest : rest_1_c.before args0 about1 = true := by decide +kernel
theorem w_case : (Jvm.Cond.and given_1 narrow_1).before args0 about1 = true := by decide +kernel
theorem w_applies : (headSpec (Jvm.Cond.code x code maxLocals ret :: tables_1) room_1).applies x e0.platform about1 = true :=
  (Spec.applies_iff w_frames).mpr ⟨w_running, w_runnable, w_alone, w_named, w_hears, w_ripe, w_room, w_tables⟩
theorem atStart : AtStart classFile x code maxLocals ret World_1 tables_1 room_1 Calls_1 rest_1 Pre_1 launch0 p0 e0 about1 theMethod args0 below0 :=
  ⟨lists_1, trivial, launch0.admits_env _ _ _, launch0.least_env, fairChoices_fair.cas, fairChoices_fair.clock, w_frames, w_args, w_heap, w_applies, ⟨⟨46, k46, 5, by decide +kernel, rfl, rfl, _, rfl, rfl⟩, trivial⟩, w_rest, w_case⟩
end start1
theorem witness_1 : WitnessClaimed_1 := ⟨start1.p0, start1.e0, start1.about1, start1.theMethod, start1.args0, start1.below0, start1.atStart⟩
end Jvm.Pilot.@@N@@
