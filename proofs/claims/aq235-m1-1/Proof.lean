import JvmDerived
import JvmDerived.Pilot.@@N@@Statement
import JvmDerived.Pilot.@@N@@Code
set_option linter.unusedVariables false
set_option linter.unusedSimpArgs false
namespace Jvm.RoadKit
open Sem ClassFile Op Lib Jvm.Stand Jvm.Free Jvm.LawKit
section New
variable {p : Program} {l : Launch} {e : Env} {R : Room} {s : State} {m : MethodId} {args : Array Value} {below : List Frame} {meth : Method} {c : Code} {T : State} {locs : List Loc} {cells slots : Nat}
theorem retI (X : Stand p l e R s m args below meth c T locs cells slots) (hx : p.tables.exec = Jvm.exec) {pc : Nat} {Ls : Array Slot} {z : Int32} {rest : List Value} (hret : meth.sig.returnType = some .int) (hd : decode c.code pc = .ok (.ireturn, 1)) {fs : List Frame}
    (hl : ∀ (f : JFrame) (acts : List Action), f.method = m → f.locked = none → f.entered = [] → (doReturn e (T.setTop f) acts (some (.int z))).1 = T.setFrames fs) : Steps p.tables e below (T.setTop (mkF m pc Ls (.int z :: rest))) (T.setFrames fs) := by
  have hm' : T.vm.method? m = some meth := X.method'
  have hn : narrow .int (.int z) = .int z := rfl
  show Steps p.tables e below (T.setTop { method := m, pc := pc, locals := Ls, stack := _ :: rest, locked := none }) _
  jvm_step X.here [X.here.top, hx, hd, hm', hret, hn]
  first | (intro acts; rw [hl _ acts rfl rfl rfl]) | rw [hl _ _ rfl rfl rfl]
  exact Steps.refl _
theorem retJ (X : Stand p l e R s m args below meth c T locs cells slots) (hx : p.tables.exec = Jvm.exec) {pc : Nat} {Ls : Array Slot} {z : Int64} {rest : List Value} (hret : meth.sig.returnType = some .long) (hd : decode c.code pc = .ok (.lreturn, 1)) {fs : List Frame}
    (hl : ∀ (f : JFrame) (acts : List Action), f.method = m → f.locked = none → f.entered = [] → (doReturn e (T.setTop f) acts (some (.long z))).1 = T.setFrames fs) : Steps p.tables e below (T.setTop (mkF m pc Ls (.long z :: rest))) (T.setFrames fs) := by
  have hm' : T.vm.method? m = some meth := X.method'
  have hn : narrow .long (.long z) = .long z := rfl
  show Steps p.tables e below (T.setTop { method := m, pc := pc, locals := Ls, stack := _ :: rest, locked := none }) _
  jvm_step X.here [X.here.top, hx, hd, hm', hret, hn]
  first | (intro acts; rw [hl _ acts rfl rfl rfl]) | rw [hl _ _ rfl rfl rfl]
  exact Steps.refl _
end New
end Jvm.RoadKit
namespace Jvm.Pilot.@@N@@
open Jvm Jvm.ClassFile Sem Op Lib Jvm.Free Jvm.Stand Jvm.LawKit Jvm.RoadKit Bundle Jvm.Pilot.@@N@@.Jvm.D
theorem own_int {args : Array Value} {first s : State} {o : Option Outcome} {idx : List Nat} {t : Term} {k : Int32} (h : (Cond.eq t (Term.int k)).value args first o s idx = some true) : t.eval args first o idx s = some (.int k) := by
  obtain ⟨x, y, e1, e2, -, k2⟩ := cmp_v (Or.inl h)
  cases (Term.int_eval k).symm.trans e2
  obtain ⟨z, rfl⟩ := k2
  rw [e1, gotT (Cond.eq_ints e1 e2) h]
theorem own_ne {args : Array Value} {s : State} {C n d : String} {t u : Term} {x y : Addr} {i j : Int32} (et : t.eval args s none [] s = some (.ref x)) (eu : u.eval args s none [] s = some (.ref y)) (ht : (Cond.eq (Term.field t C n d) (Term.int i)).value args s none s [] = some true) (hu : (Cond.eq (Term.field u C n d) (Term.int j)).value args s none s [] = some true) (hij : i ≠ j) : ¬ (x = y) := fun q => by
  have f1 := own_int ht
  have f2 := own_int hu
  rw [fld_at et] at f1
  rw [fld_at eu, ← q, f1] at f2
  exact hij (Value.int.inj (Option.some.inj f2))
theorem own_at {c : Cell} {j : Int32} {k : Nat} {v : Option Value} (e : j.toNatClampNeg = k) (h : c.slots[k]? = v) : c.slots[j.toNatClampNeg]? = v := by rw [e]; exact h
theorem own_ext {h0 h : Heap} (K : Keep h0 h []) : Ext h0 h := ⟨K.1, fun a c q => K.2.1 a c q nin0⟩
theorem own_eqR {args : Array Value} {first s : State} {o : Option Outcome} {idx : List Nat} {t u : Term} {y : Addr} (h : (Cond.eq t u).value args first o s idx = some true) (eu : u.eval args first o idx s = some (.ref y)) : t.eval args first o idx s = some (.ref y) := by
  obtain ⟨x, y', e1, e2, k1, k2⟩ := cmp_v (Or.inl h)
  cases eu.symm.trans e2
  obtain ⟨-, hx⟩ := k2
  rw [e1, gotT (eq_R e1 e2 hx rfl) h]
theorem d2_0 : decode prog_13_method_1_code 0 = .ok (.getstatic 16, 3) := by decide +kernel
theorem d2_3 : decode prog_13_method_1_code 3 = .ok (.invokevirtual 20, 3) := by decide +kernel
theorem d2_6 : decode prog_13_method_1_code 6 = .ok (.checkcast 21, 3) := by decide +kernel
theorem d2_9 : decode prog_13_method_1_code 9 = .ok (.areturn, 1) := by decide +kernel
theorem pn_2 : plainName "com/example/ashlar/ashlar/storage/ColumnType" = true := by first | (simp [plainName, overriddenIn]; done) | decide +kernel
theorem ef_2 (m : MethodId) : entryFrame m #[] 0 = mkF m 0 #[] [] := by first | (simp [entryFrame, mkF, argsToLocals, Value.category]; done) | rfl
def Q_values (Z : State) (cl : Cell) (h0 : Heap) (n0 : Nat) (v : Option Value) (h : Heap) (L : List Loc) : Prop := ∃ b, v = some (.ref b) ∧ Fr n0 L ∧ Ext h0 h ∧ Arr Z h b (cloneOf cl) (.object "com/example/ashlar/ashlar/storage/ColumnType")
set_option maxRecDepth 65536 in
set_option maxHeartbeats 40000000 in
theorem rm_values (l : Launch) (Z : State) (a0 : Array Value) (hw : ∀ d ∈ tables_1, d.before a0 Z = true) (ws : List Jvm.Cond) (wV : Addr) (cl : Cell) (h0 : Heap) (n0 : Nat) (Z0 : n0 ≤ h0.size) (S_V : Sta Z h0 "com/example/ashlar/ashlar/storage/ColumnType" "$VALUES" "[Lcom/example/ashlar/ashlar/storage/ColumnType;" (.ref wV)) (A_V : Arr Z h0 wV cl (.object "com/example/ashlar/ashlar/storage/ColumnType")) (E_V : Exa Z h0 wV "[Lcom/example/ashlar/ashlar/storage/ColumnType;") (F_V : FitC Z cl) (hsz : cl.slots.size = 4) :
    MetFree l (⟨"com/example/ashlar/ashlar/storage/ColumnType", "values", "()[Lcom/example/ashlar/ashlar/storage/ColumnType;"⟩ : MethodName) (head1 (Jvm.Cond.code (⟨"com/example/ashlar/ashlar/storage/ColumnType", "values", "()[Lcom/example/ashlar/ashlar/storage/ColumnType;"⟩ : MethodName) prog_13_method_1_code 0 (some (.array (.object "com/example/ashlar/ashlar/storage/ColumnType"))) :: ws) ({ frames := 1, cells := 1, slots := 4, locals := 14 } : Room)) (fun a U => a = #[] ∧ Z.Warmed39 U.vm ∧ U.heap = h0) (fun _ _ _ _ _ => True) (fun _ U o U' => ∃ v L, o = .returned v ∧ Q_values Z cl h0 n0 v U'.heap L ∧ FrameEnd U o U' L ({ frames := 1, cells := 1, slots := 4, locals := 14 } : Room).cells ({ frames := 1, cells := 1, slots := 4, locals := 14 } : Room).slots) := by
  refine MetFree.of_bodySF (plainFor_of_name pn_2) hisR ?_
  intro p e s m args below meth c s₁ Bd hml0 hP hK
  obtain ⟨rfl, hZ, hh⟩ := hP
  have hx := Bd.exec
  have hby := Bd.bytes
  have hml : c.maxLocals = 0 := hml0
  have hown : s.vm.findClass "com/example/ashlar/ashlar/storage/ColumnType" = some m.cls := findClass_of_methodNamed Bd.named
  have X0 : Stand p l e ({ frames := 1, cells := 1, slots := 4, locals := 14 } : Room) s m #[] below meth c s₁ [] 0 0 := Stand.of_body Bd
  have e0 : s₁.heap = h0 := by rw [← hh, Bd.state]; rfl
  have N0 := Fr.nil n0
  have pre0 : ∀ t, Steps p.tables e below (s₁.setTop (mkF m 0 #[] [])) t → Steps p.tables e below (s₁.setTop (entryFrame m #[] 0)) t := fun t k => castTop (ef_2 m) k
  obtain ⟨T1, X1, e1, st1⟩ := getS2 X0 hx hZ hown (host := "") (Or.inl (hw _ (List.mem_of_getElem? (i := 7) rfl))) Via.refl e0 S_V (g := (mkF m 0 #[] [])) rfl (hb hby d2_0)
  obtain ⟨T2, h2, X2, e2, E2, A2, Ex2, st2⟩ := cloneA X1 hx hZ hown (hw _ (List.mem_of_getElem? (i := 9) rfl)) (hw _ (List.mem_of_getElem? (i := 10) rfl)) (hw _ (List.mem_of_getElem? (i := 14) rfl)) (hw _ (List.mem_of_getElem? (i := 12) rfl)) (hw _ (List.mem_of_getElem? (i := 13) rfl)) (hw _ (List.mem_of_getElem? (i := 15) rfl)) e1 A_V E_V F_V (g := (mkF m 3 #[] [(.ref wV)])) rfl (by rw [hml]; rfl) rfl (hb hby d2_3) (by decide) (W := 0) (cap := 4) (by show 2 * 0 + _ ≤ _; exact Nat.le_of_eq rfl) (by decide) (Nat.le_of_eq hsz) (by decide) (by decide)
  obtain ⟨b2, g2⟩ : ∃ z, z = h0.size := ⟨_, rfl⟩
  rw [← g2] at A2 Ex2 st2
  obtain ⟨T3, X3, e3, st3⟩ := castY X2 hx hZ hown (hw _ (List.mem_of_getElem? (i := 21) rfl)) e2 (Ins.self Ex2) (g := (mkF m 6 #[] [(.ref b2)])) rfl rfl (hb hby d2_6)
  obtain ⟨fs, hr, hrun, hended, hW, hsame⟩ := X3.leave (v := some (.ref b2)) (fun h => by rw [Bd.returns] at h; cases h)
  refine ⟨_, _, pre0 _ ?_, hrun, hended, _, _, rfl, ?_, ⟨_, rfl⟩, hW, hsame.mono (by decide) (by decide)⟩
  · show Steps p.tables e below (s₁.setTop (mkF m 0 #[] [])) _
    refine st1 _ ?_
    show Steps p.tables e below (T1.setTop (mkF m 3 #[] [(.ref wV)])) _
    refine st2 _ ?_
    show Steps p.tables e below (T2.setTop (mkF m 6 #[] [(.ref b2)])) _
    refine st3 _ ?_
    show Steps p.tables e below (T3.setTop (mkF m 9 #[] [(.ref b2)])) _
    jvm_step X3.here [X3.here.top, hx, (hb hby d2_9), X3.method', Bd.returns, Value.isRef, FieldType.isReference]
    first | (intro acts; rw [hr _ acts rfl rfl rfl]) | rw [hr _ _ rfl rfl rfl]
    exact Steps.refl _
  · show Q_values Z cl h0 n0 _ T3.heap _
    rw [e3]
    exact ⟨_, rfl, N0, E2, A2⟩
theorem d1_0 : decode prog_13_method_5_code 0 = .ok (.invokestatic 55, 3) := by decide +kernel
theorem d1_3 : decode prog_13_method_5_code 3 = .ok (.astore_n 1, 1) := by decide +kernel
theorem d1_4 : decode prog_13_method_5_code 4 = .ok (.aload_n 1, 1) := by decide +kernel
theorem d1_5 : decode prog_13_method_5_code 5 = .ok (.arraylength, 1) := by decide +kernel
theorem d1_6 : decode prog_13_method_5_code 6 = .ok (.istore_n 2, 1) := by decide +kernel
theorem d1_7 : decode prog_13_method_5_code 7 = .ok (.iconst 0, 1) := by decide +kernel
theorem d1_8 : decode prog_13_method_5_code 8 = .ok (.istore_n 3, 1) := by decide +kernel
theorem d1_9 : decode prog_13_method_5_code 9 = .ok (.iload_n 3, 1) := by decide +kernel
theorem d1_10 : decode prog_13_method_5_code 10 = .ok (.iload_n 2, 1) := by decide +kernel
theorem d1_11 : decode prog_13_method_5_code 11 = .ok (.if_icmp .ge 26, 3) := by decide +kernel
theorem d1_14 : decode prog_13_method_5_code 14 = .ok (.aload_n 1, 1) := by decide +kernel
theorem d1_15 : decode prog_13_method_5_code 15 = .ok (.iload_n 3, 1) := by decide +kernel
theorem d1_16 : decode prog_13_method_5_code 16 = .ok (.aaload, 1) := by decide +kernel
theorem d1_17 : decode prog_13_method_5_code 17 = .ok (.astore 4, 2) := by decide +kernel
theorem d1_19 : decode prog_13_method_5_code 19 = .ok (.aload 4, 2) := by decide +kernel
theorem d1_21 : decode prog_13_method_5_code 21 = .ok (.getfield 35, 3) := by decide +kernel
theorem d1_24 : decode prog_13_method_5_code 24 = .ok (.iload_n 0, 1) := by decide +kernel
theorem d1_25 : decode prog_13_method_5_code 25 = .ok (.if_icmp .ne 6, 3) := by decide +kernel
theorem d1_28 : decode prog_13_method_5_code 28 = .ok (.aload 4, 2) := by decide +kernel
theorem d1_30 : decode prog_13_method_5_code 30 = .ok (.areturn, 1) := by decide +kernel
theorem pn_1 : plainName "com/example/ashlar/ashlar/storage/ColumnType" = true := by first | (simp [plainName, overriddenIn]; done) | decide +kernel
theorem pd_1_1 : parseMethodDescriptor "()[Lcom/example/ashlar/ashlar/storage/ColumnType;" = some ⟨[], some (.array (.object "com/example/ashlar/ashlar/storage/ColumnType"))⟩ := by decide +kernel
theorem ef_1 (m : MethodId) (x0 : Int32) : entryFrame m #[(.int x0)] 5 = mkF m 0 #[.val (.int x0), .unset, .unset, .unset, .unset] [] := by first | (simp [entryFrame, mkF, argsToLocals, Value.category]; done) | rfl
def Q_of_1 (Z : State) (p1 : Int32) (wV : Addr) (cl : Cell) (wS : Addr) (wL : Addr) (wD : Addr) (wF : Addr) (h0 : Heap) (n0 : Nat) (v : Option Value) (h : Heap) (L : List Loc) : Prop := v = some (.ref wS) ∧ Fr n0 L ∧ Ext h0 h
set_option maxRecDepth 65536 in
set_option maxHeartbeats 40000000 in
theorem rm_of_1 (l : Launch) (Z : State) (a0 : Array Value) (hw : ∀ d ∈ tables_1, d.before a0 Z = true) (ws : List Jvm.Cond) (p1 : Int32) (wV : Addr) (cl : Cell) (wS : Addr) (wL : Addr) (wD : Addr) (wF : Addr) (h0 : Heap) (n0 : Nat) (Z0 : n0 ≤ h0.size) (S_V : Sta Z h0 "com/example/ashlar/ashlar/storage/ColumnType" "$VALUES" "[Lcom/example/ashlar/ashlar/storage/ColumnType;" (.ref wV)) (A_V : Arr Z h0 wV cl (.object "com/example/ashlar/ashlar/storage/ColumnType")) (E_V : Exa Z h0 wV "[Lcom/example/ashlar/ashlar/storage/ColumnType;") (F_V : FitC Z cl) (hsz : cl.slots.size = 4) (hat_0 : cl.slots[0]? = some (.ref wS)) (hat_1 : cl.slots[1]? = some (.ref wL)) (hat_2 : cl.slots[2]? = some (.ref wD)) (hat_3 : cl.slots[3]? = some (.ref wF)) (F_wS : Fld Z h0 wS "com/example/ashlar/ashlar/storage/ColumnType" "tag" "B" (.int (1 : Int32))) (F_wL : Fld Z h0 wL "com/example/ashlar/ashlar/storage/ColumnType" "tag" "B" (.int (2 : Int32))) (F_wD : Fld Z h0 wD "com/example/ashlar/ashlar/storage/ColumnType" "tag" "B" (.int (3 : Int32))) (F_wF : Fld Z h0 wF "com/example/ashlar/ashlar/storage/ColumnType" "tag" "B" (.int (4 : Int32))) (hc25 : (1 : Int32) = p1) :
    MetFree l (⟨"com/example/ashlar/ashlar/storage/ColumnType", "ofTag", "(B)Lcom/example/ashlar/ashlar/storage/ColumnType;"⟩ : MethodName) (head1 (Jvm.Cond.code (⟨"com/example/ashlar/ashlar/storage/ColumnType", "ofTag", "(B)Lcom/example/ashlar/ashlar/storage/ColumnType;"⟩ : MethodName) prog_13_method_5_code 5 (some (.object "com/example/ashlar/ashlar/storage/ColumnType")) :: ws) ({ frames := 2, cells := 1, slots := 4, locals := 25 } : Room)) (fun a U => a = #[(.int p1)] ∧ Z.Warmed39 U.vm ∧ U.heap = h0) (fun _ _ _ _ _ => True) (fun _ U o U' => ∃ v L, o = .returned v ∧ Q_of_1 Z p1 wV cl wS wL wD wF h0 n0 v U'.heap L ∧ FrameEnd U o U' L ({ frames := 2, cells := 1, slots := 4, locals := 25 } : Room).cells ({ frames := 2, cells := 1, slots := 4, locals := 25 } : Room).slots) := by
  refine MetFree.of_bodySF (plainFor_of_name pn_1) hisR ?_
  intro p e s m args below meth c s₁ Bd hml0 hP hK
  obtain ⟨rfl, hZ, hh⟩ := hP
  have hx := Bd.exec
  have hby := Bd.bytes
  have hml : c.maxLocals = 5 := hml0
  have hown : s.vm.findClass "com/example/ashlar/ashlar/storage/ColumnType" = some m.cls := findClass_of_methodNamed Bd.named
  have hnm := (name_of_methodNamed Bd.named Bd.method).1
  have X0 : Stand p l e ({ frames := 2, cells := 1, slots := 4, locals := 25 } : Room) s m #[(.int p1)] below meth c s₁ [] 0 0 := Stand.of_body Bd
  have e0 : s₁.heap = h0 := by rw [← hh, Bd.state]; rfl
  have N0 := Fr.nil n0
  have pre0 : ∀ t, Steps p.tables e below (s₁.setTop (mkF m 0 #[.val (.int p1), .unset, .unset, .unset, .unset] [])) t → Steps p.tables e below (s₁.setTop (entryFrame m #[(.int p1)] 5)) t := fun t k => castTop (ef_1 m p1) k
  obtain ⟨_, _, ⟨T2, L2, k2, n2⟩, -, X2, ⟨Lc2, hQ2, l2, y2, z2⟩, st2⟩ := Jvm.LawKit.callS X0 hx (y := (⟨"com/example/ashlar/ashlar/storage/ColumnType", "values", "()[Lcom/example/ashlar/ashlar/storage/ColumnType;"⟩ : MethodName)) hown (mvT hZ (hw _ (List.mem_of_getElem? (i := 4) rfl))) (mvT hZ (hw _ (List.mem_of_getElem? (i := 5) rfl))) (mvT hZ (hw _ (List.mem_of_getElem? (i := 2) rfl))) (mvT hZ (hw _ (List.mem_of_getElem? (i := 6) rfl))) (by decide) (backOf (W := 0) (rm_values l Z a0 hw []  wV cl h0 n0 Z0 S_V A_V E_V F_V hsz) hZ (hw _ (List.mem_of_getElem? (i := 6) rfl)) (hw _ (List.mem_of_getElem? (i := 2) rfl)) (by decide) (by decide)) (g := (mkF m 0 #[.val (.int p1), .unset, .unset, .unset, .unset] [])) rfl (by rw [hml]; rfl) (argsL := []) (rest := []) (lenOf pd_1_1 rfl) rfl (by show 2 * 0 + _ ≤ _; exact Nat.le_of_eq rfl) (hb hby d1_0) (fun _ _ => ⟨rfl, e0, (by decide : 0 + 1 ≤ _), (by decide : 0 + 4 ≤ _)⟩)
  dsimp only [Pt.U, Pt.locs, Pt.cells, Pt.slots] at X2 l2 y2 z2 st2 hQ2
  subst l2 y2 z2
  obtain ⟨bV, rfl, N2q, Ex2, Ar_bV⟩ := hQ2
  have N2 := Fr.app N0 N2q
  have hszc : (cloneOf cl).slots.size = 4 := hsz
  have S_bV : (cloneOf cl).slots.size = (4 : Int32).toNatClampNeg := hsz
  have N_bV : ¬ (4 : Int32) < 0 := by decide
  obtain ⟨T3, X3, e3, st3⟩ := getF X2 hx hZ hown (host := "") (Or.inl (hw _ (List.mem_of_getElem? (i := 23) rfl))) Via.refl rfl (F_wS.ext Ex2) (g := (mkF m 21 #[.val (.int p1), .val (.ref bV), .val (.int (4 : Int32)), .val (.int (0 : Int32)), .val (.ref wS)] [(.ref wS)])) rfl rfl (hb hby d1_21)
  obtain ⟨fs, hr, hrun, hended, hW, hsame⟩ := X3.leave (v := some (.ref wS)) (fun h => by rw [Bd.returns] at h; cases h)
  refine ⟨_, _, pre0 _ ?_, hrun, hended, _, _, rfl, ?_, ⟨_, rfl⟩, hW, hsame.mono (by decide) (by decide)⟩
  · show Steps p.tables e below (s₁.setTop (mkF m 0 #[.val (.int p1), .unset, .unset, .unset, .unset] [])) _
    refine st2 _ ?_
    show Steps p.tables e below (T2.setTop (mkF m 3 #[.val (.int p1), .unset, .unset, .unset, .unset] [(.ref bV)])) _
    refine XS.astoreN X2.here hx rfl (hb hby d1_3) rfl rfl (l' := #[.val (.int p1), .val (.ref bV), .unset, .unset, .unset]) rfl ?_
    show Steps p.tables e below (T2.setTop (mkF m 4 #[.val (.int p1), .val (.ref bV), .unset, .unset, .unset] [])) _
    refine XS.aloadN X2.here hx rfl (hb hby d1_4) rfl rfl ?_
    show Steps p.tables e below (T2.setTop (mkF m 5 #[.val (.int p1), .val (.ref bV), .unset, .unset, .unset] [(.ref bV)])) _
    refine X2.arraylength hx (by exact Ar_bV.1) (State.isArrayOf_alike hZ.alike Ar_bV.2.1) (g := (mkF m 5 #[.val (.int p1), .val (.ref bV), .unset, .unset, .unset] [(.ref bV)])) rfl rfl (hb hby d1_5) _ ?_
    rw [len_of S_bV N_bV]
    show Steps p.tables e below (T2.setTop (mkF m 6 #[.val (.int p1), .val (.ref bV), .unset, .unset, .unset] [(.int (4 : Int32))])) _
    refine XS.istoreN X2.here hx rfl (hb hby d1_6) rfl (l' := #[.val (.int p1), .val (.ref bV), .val (.int (4 : Int32)), .unset, .unset]) rfl ?_
    show Steps p.tables e below (T2.setTop (mkF m 7 #[.val (.int p1), .val (.ref bV), .val (.int (4 : Int32)), .unset, .unset] [])) _
    refine XS.iconst X2.here hx rfl (hb hby d1_7) ?_
    show Steps p.tables e below (T2.setTop (mkF m 8 #[.val (.int p1), .val (.ref bV), .val (.int (4 : Int32)), .unset, .unset] [(.int (0 : Int32))])) _
    refine XS.istoreN X2.here hx rfl (hb hby d1_8) rfl (l' := #[.val (.int p1), .val (.ref bV), .val (.int (4 : Int32)), .val (.int (0 : Int32)), .unset]) rfl ?_
    show Steps p.tables e below (T2.setTop (mkF m 9 #[.val (.int p1), .val (.ref bV), .val (.int (4 : Int32)), .val (.int (0 : Int32)), .unset] [])) _
    refine XS.iloadN X2.here hx rfl (hb hby d1_9) rfl ?_
    show Steps p.tables e below (T2.setTop (mkF m 10 #[.val (.int p1), .val (.ref bV), .val (.int (4 : Int32)), .val (.int (0 : Int32)), .unset] [(.int (0 : Int32))])) _
    refine XS.iloadN X2.here hx rfl (hb hby d1_10) rfl ?_
    show Steps p.tables e below (T2.setTop (mkF m 11 #[.val (.int p1), .val (.ref bV), .val (.int (4 : Int32)), .val (.int (0 : Int32)), .unset] [(.int (4 : Int32)), (.int (0 : Int32))])) _
    refine XS.icmpNo X2.here hx rfl (hb hby d1_11) rfl (tlt (by decide : (0 : Int32) < (4 : Int32))).2.1 ?_
    show Steps p.tables e below (T2.setTop (mkF m 14 #[.val (.int p1), .val (.ref bV), .val (.int (4 : Int32)), .val (.int (0 : Int32)), .unset] [])) _
    refine XS.aloadN X2.here hx rfl (hb hby d1_14) rfl rfl ?_
    show Steps p.tables e below (T2.setTop (mkF m 15 #[.val (.int p1), .val (.ref bV), .val (.int (4 : Int32)), .val (.int (0 : Int32)), .unset] [(.ref bV)])) _
    refine XS.iloadN X2.here hx rfl (hb hby d1_15) rfl ?_
    show Steps p.tables e below (T2.setTop (mkF m 16 #[.val (.int p1), .val (.ref bV), .val (.int (4 : Int32)), .val (.int (0 : Int32)), .unset] [(.int (0 : Int32)), (.ref bV)])) _
    refine X2.aaload hx (j := (0 : Int32)) (v := (.ref wS)) (by exact Ar_bV.1) (State.isArrayOf_alike hZ.alike Ar_bV.2.1) rfl Ar_bV.2.2 (by rw [hszc]; decide) (own_at (c := cloneOf cl) (by decide) hat_0) (g := (mkF m 16 #[.val (.int p1), .val (.ref bV), .val (.int (4 : Int32)), .val (.int (0 : Int32)), .unset] [(.int (0 : Int32)), (.ref bV)])) rfl rfl (hb hby d1_16) _ ?_
    show Steps p.tables e below (T2.setTop (mkF m 17 #[.val (.int p1), .val (.ref bV), .val (.int (4 : Int32)), .val (.int (0 : Int32)), .unset] [(.ref wS)])) _
    refine XS.astore X2.here hx rfl (hb hby d1_17) rfl rfl (l' := #[.val (.int p1), .val (.ref bV), .val (.int (4 : Int32)), .val (.int (0 : Int32)), .val (.ref wS)]) rfl ?_
    show Steps p.tables e below (T2.setTop (mkF m 19 #[.val (.int p1), .val (.ref bV), .val (.int (4 : Int32)), .val (.int (0 : Int32)), .val (.ref wS)] [])) _
    refine XS.aload X2.here hx rfl (hb hby d1_19) rfl rfl ?_
    show Steps p.tables e below (T2.setTop (mkF m 21 #[.val (.int p1), .val (.ref bV), .val (.int (4 : Int32)), .val (.int (0 : Int32)), .val (.ref wS)] [(.ref wS)])) _
    refine st3 _ ?_
    show Steps p.tables e below (T3.setTop (mkF m 24 #[.val (.int p1), .val (.ref bV), .val (.int (4 : Int32)), .val (.int (0 : Int32)), .val (.ref wS)] [(.int (1 : Int32))])) _
    refine XS.iloadN X3.here hx rfl (hb hby d1_24) rfl ?_
    show Steps p.tables e below (T3.setTop (mkF m 25 #[.val (.int p1), .val (.ref bV), .val (.int (4 : Int32)), .val (.int (0 : Int32)), .val (.ref wS)] [(.int p1), (.int (1 : Int32))])) _
    refine XS.icmpNo X3.here hx rfl (hb hby d1_25) rfl (teq hc25).2 ?_
    show Steps p.tables e below (T3.setTop (mkF m 28 #[.val (.int p1), .val (.ref bV), .val (.int (4 : Int32)), .val (.int (0 : Int32)), .val (.ref wS)] [])) _
    refine XS.aload X3.here hx rfl (hb hby d1_28) rfl rfl ?_
    show Steps p.tables e below (T3.setTop (mkF m 30 #[.val (.int p1), .val (.ref bV), .val (.int (4 : Int32)), .val (.int (0 : Int32)), .val (.ref wS)] [(.ref wS)])) _
    jvm_step X3.here [X3.here.top, hx, (hb hby d1_30), X3.method', Bd.returns, Value.isRef, FieldType.isReference]
    first | (intro acts; rw [hr _ acts rfl rfl rfl]) | rw [hr _ _ rfl rfl rfl]
    exact Steps.refl _
  · show Q_of_1 Z p1 wV cl wS wL wD wF h0 n0 _ T3.heap _
    rw [e3]
    exact ⟨rfl, N2, Ex2⟩
theorem d1_31 : decode prog_13_method_5_code 31 = .ok (.iinc 3 1, 3) := by decide +kernel
theorem d1_34 : decode prog_13_method_5_code 34 = .ok (.goto (-25), 3) := by decide +kernel
def Q_of_2 (Z : State) (p1 : Int32) (wV : Addr) (cl : Cell) (wS : Addr) (wL : Addr) (wD : Addr) (wF : Addr) (h0 : Heap) (n0 : Nat) (v : Option Value) (h : Heap) (L : List Loc) : Prop := v = some (.ref wL) ∧ Fr n0 L ∧ Ext h0 h
set_option maxRecDepth 65536 in
set_option maxHeartbeats 40000000 in
theorem rm_of_2 (l : Launch) (Z : State) (a0 : Array Value) (hw : ∀ d ∈ tables_1, d.before a0 Z = true) (ws : List Jvm.Cond) (p1 : Int32) (wV : Addr) (cl : Cell) (wS : Addr) (wL : Addr) (wD : Addr) (wF : Addr) (h0 : Heap) (n0 : Nat) (Z0 : n0 ≤ h0.size) (S_V : Sta Z h0 "com/example/ashlar/ashlar/storage/ColumnType" "$VALUES" "[Lcom/example/ashlar/ashlar/storage/ColumnType;" (.ref wV)) (A_V : Arr Z h0 wV cl (.object "com/example/ashlar/ashlar/storage/ColumnType")) (E_V : Exa Z h0 wV "[Lcom/example/ashlar/ashlar/storage/ColumnType;") (F_V : FitC Z cl) (hsz : cl.slots.size = 4) (hat_0 : cl.slots[0]? = some (.ref wS)) (hat_1 : cl.slots[1]? = some (.ref wL)) (hat_2 : cl.slots[2]? = some (.ref wD)) (hat_3 : cl.slots[3]? = some (.ref wF)) (F_wS : Fld Z h0 wS "com/example/ashlar/ashlar/storage/ColumnType" "tag" "B" (.int (1 : Int32))) (F_wL : Fld Z h0 wL "com/example/ashlar/ashlar/storage/ColumnType" "tag" "B" (.int (2 : Int32))) (F_wD : Fld Z h0 wD "com/example/ashlar/ashlar/storage/ColumnType" "tag" "B" (.int (3 : Int32))) (F_wF : Fld Z h0 wF "com/example/ashlar/ashlar/storage/ColumnType" "tag" "B" (.int (4 : Int32))) (hc25 : ¬ ((1 : Int32) = p1)) (hc25_2 : (2 : Int32) = p1) :
    MetFree l (⟨"com/example/ashlar/ashlar/storage/ColumnType", "ofTag", "(B)Lcom/example/ashlar/ashlar/storage/ColumnType;"⟩ : MethodName) (head1 (Jvm.Cond.code (⟨"com/example/ashlar/ashlar/storage/ColumnType", "ofTag", "(B)Lcom/example/ashlar/ashlar/storage/ColumnType;"⟩ : MethodName) prog_13_method_5_code 5 (some (.object "com/example/ashlar/ashlar/storage/ColumnType")) :: ws) ({ frames := 2, cells := 1, slots := 4, locals := 25 } : Room)) (fun a U => a = #[(.int p1)] ∧ Z.Warmed39 U.vm ∧ U.heap = h0) (fun _ _ _ _ _ => True) (fun _ U o U' => ∃ v L, o = .returned v ∧ Q_of_2 Z p1 wV cl wS wL wD wF h0 n0 v U'.heap L ∧ FrameEnd U o U' L ({ frames := 2, cells := 1, slots := 4, locals := 25 } : Room).cells ({ frames := 2, cells := 1, slots := 4, locals := 25 } : Room).slots) := by
  refine MetFree.of_bodySF (plainFor_of_name pn_1) hisR ?_
  intro p e s m args below meth c s₁ Bd hml0 hP hK
  obtain ⟨rfl, hZ, hh⟩ := hP
  have hx := Bd.exec
  have hby := Bd.bytes
  have hml : c.maxLocals = 5 := hml0
  have hown : s.vm.findClass "com/example/ashlar/ashlar/storage/ColumnType" = some m.cls := findClass_of_methodNamed Bd.named
  have hnm := (name_of_methodNamed Bd.named Bd.method).1
  have X0 : Stand p l e ({ frames := 2, cells := 1, slots := 4, locals := 25 } : Room) s m #[(.int p1)] below meth c s₁ [] 0 0 := Stand.of_body Bd
  have e0 : s₁.heap = h0 := by rw [← hh, Bd.state]; rfl
  have N0 := Fr.nil n0
  have pre0 : ∀ t, Steps p.tables e below (s₁.setTop (mkF m 0 #[.val (.int p1), .unset, .unset, .unset, .unset] [])) t → Steps p.tables e below (s₁.setTop (entryFrame m #[(.int p1)] 5)) t := fun t k => castTop (ef_1 m p1) k
  obtain ⟨_, _, ⟨T2, L2, k2, n2⟩, -, X2, ⟨Lc2, hQ2, l2, y2, z2⟩, st2⟩ := Jvm.LawKit.callS X0 hx (y := (⟨"com/example/ashlar/ashlar/storage/ColumnType", "values", "()[Lcom/example/ashlar/ashlar/storage/ColumnType;"⟩ : MethodName)) hown (mvT hZ (hw _ (List.mem_of_getElem? (i := 4) rfl))) (mvT hZ (hw _ (List.mem_of_getElem? (i := 5) rfl))) (mvT hZ (hw _ (List.mem_of_getElem? (i := 2) rfl))) (mvT hZ (hw _ (List.mem_of_getElem? (i := 6) rfl))) (by decide) (backOf (W := 0) (rm_values l Z a0 hw []  wV cl h0 n0 Z0 S_V A_V E_V F_V hsz) hZ (hw _ (List.mem_of_getElem? (i := 6) rfl)) (hw _ (List.mem_of_getElem? (i := 2) rfl)) (by decide) (by decide)) (g := (mkF m 0 #[.val (.int p1), .unset, .unset, .unset, .unset] [])) rfl (by rw [hml]; rfl) (argsL := []) (rest := []) (lenOf pd_1_1 rfl) rfl (by show 2 * 0 + _ ≤ _; exact Nat.le_of_eq rfl) (hb hby d1_0) (fun _ _ => ⟨rfl, e0, (by decide : 0 + 1 ≤ _), (by decide : 0 + 4 ≤ _)⟩)
  dsimp only [Pt.U, Pt.locs, Pt.cells, Pt.slots] at X2 l2 y2 z2 st2 hQ2
  subst l2 y2 z2
  obtain ⟨bV, rfl, N2q, Ex2, Ar_bV⟩ := hQ2
  have N2 := Fr.app N0 N2q
  have hszc : (cloneOf cl).slots.size = 4 := hsz
  have S_bV : (cloneOf cl).slots.size = (4 : Int32).toNatClampNeg := hsz
  have N_bV : ¬ (4 : Int32) < 0 := by decide
  obtain ⟨T3, X3, e3, st3⟩ := getF X2 hx hZ hown (host := "") (Or.inl (hw _ (List.mem_of_getElem? (i := 23) rfl))) Via.refl rfl (F_wS.ext Ex2) (g := (mkF m 21 #[.val (.int p1), .val (.ref bV), .val (.int (4 : Int32)), .val (.int (0 : Int32)), .val (.ref wS)] [(.ref wS)])) rfl rfl (hb hby d1_21)
  obtain ⟨T4, X4, e4, st4⟩ := getF X3 hx hZ hown (host := "") (Or.inl (hw _ (List.mem_of_getElem? (i := 23) rfl))) Via.refl e3 (F_wL.ext Ex2) (g := (mkF m 21 #[.val (.int p1), .val (.ref bV), .val (.int (4 : Int32)), .val (.int ((0 : Int32) + (1 : Int32))), .val (.ref wL)] [(.ref wL)])) rfl rfl (hb hby d1_21)
  obtain ⟨fs, hr, hrun, hended, hW, hsame⟩ := X4.leave (v := some (.ref wL)) (fun h => by rw [Bd.returns] at h; cases h)
  refine ⟨_, _, pre0 _ ?_, hrun, hended, _, _, rfl, ?_, ⟨_, rfl⟩, hW, hsame.mono (by decide) (by decide)⟩
  · show Steps p.tables e below (s₁.setTop (mkF m 0 #[.val (.int p1), .unset, .unset, .unset, .unset] [])) _
    refine st2 _ ?_
    show Steps p.tables e below (T2.setTop (mkF m 3 #[.val (.int p1), .unset, .unset, .unset, .unset] [(.ref bV)])) _
    refine XS.astoreN X2.here hx rfl (hb hby d1_3) rfl rfl (l' := #[.val (.int p1), .val (.ref bV), .unset, .unset, .unset]) rfl ?_
    show Steps p.tables e below (T2.setTop (mkF m 4 #[.val (.int p1), .val (.ref bV), .unset, .unset, .unset] [])) _
    refine XS.aloadN X2.here hx rfl (hb hby d1_4) rfl rfl ?_
    show Steps p.tables e below (T2.setTop (mkF m 5 #[.val (.int p1), .val (.ref bV), .unset, .unset, .unset] [(.ref bV)])) _
    refine X2.arraylength hx (by exact Ar_bV.1) (State.isArrayOf_alike hZ.alike Ar_bV.2.1) (g := (mkF m 5 #[.val (.int p1), .val (.ref bV), .unset, .unset, .unset] [(.ref bV)])) rfl rfl (hb hby d1_5) _ ?_
    rw [len_of S_bV N_bV]
    show Steps p.tables e below (T2.setTop (mkF m 6 #[.val (.int p1), .val (.ref bV), .unset, .unset, .unset] [(.int (4 : Int32))])) _
    refine XS.istoreN X2.here hx rfl (hb hby d1_6) rfl (l' := #[.val (.int p1), .val (.ref bV), .val (.int (4 : Int32)), .unset, .unset]) rfl ?_
    show Steps p.tables e below (T2.setTop (mkF m 7 #[.val (.int p1), .val (.ref bV), .val (.int (4 : Int32)), .unset, .unset] [])) _
    refine XS.iconst X2.here hx rfl (hb hby d1_7) ?_
    show Steps p.tables e below (T2.setTop (mkF m 8 #[.val (.int p1), .val (.ref bV), .val (.int (4 : Int32)), .unset, .unset] [(.int (0 : Int32))])) _
    refine XS.istoreN X2.here hx rfl (hb hby d1_8) rfl (l' := #[.val (.int p1), .val (.ref bV), .val (.int (4 : Int32)), .val (.int (0 : Int32)), .unset]) rfl ?_
    show Steps p.tables e below (T2.setTop (mkF m 9 #[.val (.int p1), .val (.ref bV), .val (.int (4 : Int32)), .val (.int (0 : Int32)), .unset] [])) _
    refine XS.iloadN X2.here hx rfl (hb hby d1_9) rfl ?_
    show Steps p.tables e below (T2.setTop (mkF m 10 #[.val (.int p1), .val (.ref bV), .val (.int (4 : Int32)), .val (.int (0 : Int32)), .unset] [(.int (0 : Int32))])) _
    refine XS.iloadN X2.here hx rfl (hb hby d1_10) rfl ?_
    show Steps p.tables e below (T2.setTop (mkF m 11 #[.val (.int p1), .val (.ref bV), .val (.int (4 : Int32)), .val (.int (0 : Int32)), .unset] [(.int (4 : Int32)), (.int (0 : Int32))])) _
    refine XS.icmpNo X2.here hx rfl (hb hby d1_11) rfl (tlt (by decide : (0 : Int32) < (4 : Int32))).2.1 ?_
    show Steps p.tables e below (T2.setTop (mkF m 14 #[.val (.int p1), .val (.ref bV), .val (.int (4 : Int32)), .val (.int (0 : Int32)), .unset] [])) _
    refine XS.aloadN X2.here hx rfl (hb hby d1_14) rfl rfl ?_
    show Steps p.tables e below (T2.setTop (mkF m 15 #[.val (.int p1), .val (.ref bV), .val (.int (4 : Int32)), .val (.int (0 : Int32)), .unset] [(.ref bV)])) _
    refine XS.iloadN X2.here hx rfl (hb hby d1_15) rfl ?_
    show Steps p.tables e below (T2.setTop (mkF m 16 #[.val (.int p1), .val (.ref bV), .val (.int (4 : Int32)), .val (.int (0 : Int32)), .unset] [(.int (0 : Int32)), (.ref bV)])) _
    refine X2.aaload hx (j := (0 : Int32)) (v := (.ref wS)) (by exact Ar_bV.1) (State.isArrayOf_alike hZ.alike Ar_bV.2.1) rfl Ar_bV.2.2 (by rw [hszc]; decide) (own_at (c := cloneOf cl) (by decide) hat_0) (g := (mkF m 16 #[.val (.int p1), .val (.ref bV), .val (.int (4 : Int32)), .val (.int (0 : Int32)), .unset] [(.int (0 : Int32)), (.ref bV)])) rfl rfl (hb hby d1_16) _ ?_
    show Steps p.tables e below (T2.setTop (mkF m 17 #[.val (.int p1), .val (.ref bV), .val (.int (4 : Int32)), .val (.int (0 : Int32)), .unset] [(.ref wS)])) _
    refine XS.astore X2.here hx rfl (hb hby d1_17) rfl rfl (l' := #[.val (.int p1), .val (.ref bV), .val (.int (4 : Int32)), .val (.int (0 : Int32)), .val (.ref wS)]) rfl ?_
    show Steps p.tables e below (T2.setTop (mkF m 19 #[.val (.int p1), .val (.ref bV), .val (.int (4 : Int32)), .val (.int (0 : Int32)), .val (.ref wS)] [])) _
    refine XS.aload X2.here hx rfl (hb hby d1_19) rfl rfl ?_
    show Steps p.tables e below (T2.setTop (mkF m 21 #[.val (.int p1), .val (.ref bV), .val (.int (4 : Int32)), .val (.int (0 : Int32)), .val (.ref wS)] [(.ref wS)])) _
    refine st3 _ ?_
    show Steps p.tables e below (T3.setTop (mkF m 24 #[.val (.int p1), .val (.ref bV), .val (.int (4 : Int32)), .val (.int (0 : Int32)), .val (.ref wS)] [(.int (1 : Int32))])) _
    refine XS.iloadN X3.here hx rfl (hb hby d1_24) rfl ?_
    show Steps p.tables e below (T3.setTop (mkF m 25 #[.val (.int p1), .val (.ref bV), .val (.int (4 : Int32)), .val (.int (0 : Int32)), .val (.ref wS)] [(.int p1), (.int (1 : Int32))])) _
    refine XS.icmpYes X3.here hx rfl (pc0 := 25) (pc' := 31) rfl (hb hby d1_25) rfl (feq hc25).2 (by decide) (by decide) ?_
    show Steps p.tables e below (T3.setTop (mkF m 31 #[.val (.int p1), .val (.ref bV), .val (.int (4 : Int32)), .val (.int (0 : Int32)), .val (.ref wS)] [])) _
    refine XS.iinc X3.here hx rfl (hb hby d1_31) rfl (l' := #[.val (.int p1), .val (.ref bV), .val (.int (4 : Int32)), .val (.int ((0 : Int32) + (1 : Int32))), .val (.ref wS)]) rfl ?_
    show Steps p.tables e below (T3.setTop (mkF m 34 #[.val (.int p1), .val (.ref bV), .val (.int (4 : Int32)), .val (.int ((0 : Int32) + (1 : Int32))), .val (.ref wS)] [])) _
    refine XS.goto X3.here hx rfl (pc0 := 34) (pc' := 9) rfl (hb hby d1_34) (by decide) (by decide) ?_
    show Steps p.tables e below (T3.setTop (mkF m 9 #[.val (.int p1), .val (.ref bV), .val (.int (4 : Int32)), .val (.int ((0 : Int32) + (1 : Int32))), .val (.ref wS)] [])) _
    refine XS.iloadN X3.here hx rfl (hb hby d1_9) rfl ?_
    show Steps p.tables e below (T3.setTop (mkF m 10 #[.val (.int p1), .val (.ref bV), .val (.int (4 : Int32)), .val (.int ((0 : Int32) + (1 : Int32))), .val (.ref wS)] [(.int ((0 : Int32) + (1 : Int32)))])) _
    refine XS.iloadN X3.here hx rfl (hb hby d1_10) rfl ?_
    show Steps p.tables e below (T3.setTop (mkF m 11 #[.val (.int p1), .val (.ref bV), .val (.int (4 : Int32)), .val (.int ((0 : Int32) + (1 : Int32))), .val (.ref wS)] [(.int (4 : Int32)), (.int ((0 : Int32) + (1 : Int32)))])) _
    refine XS.icmpNo X3.here hx rfl (hb hby d1_11) rfl (tlt (by decide : ((0 : Int32) + (1 : Int32)) < (4 : Int32))).2.1 ?_
    show Steps p.tables e below (T3.setTop (mkF m 14 #[.val (.int p1), .val (.ref bV), .val (.int (4 : Int32)), .val (.int ((0 : Int32) + (1 : Int32))), .val (.ref wS)] [])) _
    refine XS.aloadN X3.here hx rfl (hb hby d1_14) rfl rfl ?_
    show Steps p.tables e below (T3.setTop (mkF m 15 #[.val (.int p1), .val (.ref bV), .val (.int (4 : Int32)), .val (.int ((0 : Int32) + (1 : Int32))), .val (.ref wS)] [(.ref bV)])) _
    refine XS.iloadN X3.here hx rfl (hb hby d1_15) rfl ?_
    show Steps p.tables e below (T3.setTop (mkF m 16 #[.val (.int p1), .val (.ref bV), .val (.int (4 : Int32)), .val (.int ((0 : Int32) + (1 : Int32))), .val (.ref wS)] [(.int ((0 : Int32) + (1 : Int32))), (.ref bV)])) _
    refine X3.aaload hx (j := ((0 : Int32) + (1 : Int32))) (v := (.ref wL)) (by rw [e3]; exact Ar_bV.1) (State.isArrayOf_alike hZ.alike Ar_bV.2.1) rfl Ar_bV.2.2 (by rw [hszc]; decide) (own_at (c := cloneOf cl) (by decide) hat_1) (g := (mkF m 16 #[.val (.int p1), .val (.ref bV), .val (.int (4 : Int32)), .val (.int ((0 : Int32) + (1 : Int32))), .val (.ref wS)] [(.int ((0 : Int32) + (1 : Int32))), (.ref bV)])) rfl rfl (hb hby d1_16) _ ?_
    show Steps p.tables e below (T3.setTop (mkF m 17 #[.val (.int p1), .val (.ref bV), .val (.int (4 : Int32)), .val (.int ((0 : Int32) + (1 : Int32))), .val (.ref wS)] [(.ref wL)])) _
    refine XS.astore X3.here hx rfl (hb hby d1_17) rfl rfl (l' := #[.val (.int p1), .val (.ref bV), .val (.int (4 : Int32)), .val (.int ((0 : Int32) + (1 : Int32))), .val (.ref wL)]) rfl ?_
    show Steps p.tables e below (T3.setTop (mkF m 19 #[.val (.int p1), .val (.ref bV), .val (.int (4 : Int32)), .val (.int ((0 : Int32) + (1 : Int32))), .val (.ref wL)] [])) _
    refine XS.aload X3.here hx rfl (hb hby d1_19) rfl rfl ?_
    show Steps p.tables e below (T3.setTop (mkF m 21 #[.val (.int p1), .val (.ref bV), .val (.int (4 : Int32)), .val (.int ((0 : Int32) + (1 : Int32))), .val (.ref wL)] [(.ref wL)])) _
    refine st4 _ ?_
    show Steps p.tables e below (T4.setTop (mkF m 24 #[.val (.int p1), .val (.ref bV), .val (.int (4 : Int32)), .val (.int ((0 : Int32) + (1 : Int32))), .val (.ref wL)] [(.int (2 : Int32))])) _
    refine XS.iloadN X4.here hx rfl (hb hby d1_24) rfl ?_
    show Steps p.tables e below (T4.setTop (mkF m 25 #[.val (.int p1), .val (.ref bV), .val (.int (4 : Int32)), .val (.int ((0 : Int32) + (1 : Int32))), .val (.ref wL)] [(.int p1), (.int (2 : Int32))])) _
    refine XS.icmpNo X4.here hx rfl (hb hby d1_25) rfl (teq hc25_2).2 ?_
    show Steps p.tables e below (T4.setTop (mkF m 28 #[.val (.int p1), .val (.ref bV), .val (.int (4 : Int32)), .val (.int ((0 : Int32) + (1 : Int32))), .val (.ref wL)] [])) _
    refine XS.aload X4.here hx rfl (hb hby d1_28) rfl rfl ?_
    show Steps p.tables e below (T4.setTop (mkF m 30 #[.val (.int p1), .val (.ref bV), .val (.int (4 : Int32)), .val (.int ((0 : Int32) + (1 : Int32))), .val (.ref wL)] [(.ref wL)])) _
    jvm_step X4.here [X4.here.top, hx, (hb hby d1_30), X4.method', Bd.returns, Value.isRef, FieldType.isReference]
    first | (intro acts; rw [hr _ acts rfl rfl rfl]) | rw [hr _ _ rfl rfl rfl]
    exact Steps.refl _
  · show Q_of_2 Z p1 wV cl wS wL wD wF h0 n0 _ T4.heap _
    rw [e4]
    exact ⟨rfl, N2, Ex2⟩
def Q_of_3 (Z : State) (p1 : Int32) (wV : Addr) (cl : Cell) (wS : Addr) (wL : Addr) (wD : Addr) (wF : Addr) (h0 : Heap) (n0 : Nat) (v : Option Value) (h : Heap) (L : List Loc) : Prop := v = some (.ref wD) ∧ Fr n0 L ∧ Ext h0 h
set_option maxRecDepth 65536 in
set_option maxHeartbeats 40000000 in
theorem rm_of_3 (l : Launch) (Z : State) (a0 : Array Value) (hw : ∀ d ∈ tables_1, d.before a0 Z = true) (ws : List Jvm.Cond) (p1 : Int32) (wV : Addr) (cl : Cell) (wS : Addr) (wL : Addr) (wD : Addr) (wF : Addr) (h0 : Heap) (n0 : Nat) (Z0 : n0 ≤ h0.size) (S_V : Sta Z h0 "com/example/ashlar/ashlar/storage/ColumnType" "$VALUES" "[Lcom/example/ashlar/ashlar/storage/ColumnType;" (.ref wV)) (A_V : Arr Z h0 wV cl (.object "com/example/ashlar/ashlar/storage/ColumnType")) (E_V : Exa Z h0 wV "[Lcom/example/ashlar/ashlar/storage/ColumnType;") (F_V : FitC Z cl) (hsz : cl.slots.size = 4) (hat_0 : cl.slots[0]? = some (.ref wS)) (hat_1 : cl.slots[1]? = some (.ref wL)) (hat_2 : cl.slots[2]? = some (.ref wD)) (hat_3 : cl.slots[3]? = some (.ref wF)) (F_wS : Fld Z h0 wS "com/example/ashlar/ashlar/storage/ColumnType" "tag" "B" (.int (1 : Int32))) (F_wL : Fld Z h0 wL "com/example/ashlar/ashlar/storage/ColumnType" "tag" "B" (.int (2 : Int32))) (F_wD : Fld Z h0 wD "com/example/ashlar/ashlar/storage/ColumnType" "tag" "B" (.int (3 : Int32))) (F_wF : Fld Z h0 wF "com/example/ashlar/ashlar/storage/ColumnType" "tag" "B" (.int (4 : Int32))) (hc25 : ¬ ((1 : Int32) = p1)) (hc25_2 : ¬ ((2 : Int32) = p1)) (hc25_3 : (3 : Int32) = p1) :
    MetFree l (⟨"com/example/ashlar/ashlar/storage/ColumnType", "ofTag", "(B)Lcom/example/ashlar/ashlar/storage/ColumnType;"⟩ : MethodName) (head1 (Jvm.Cond.code (⟨"com/example/ashlar/ashlar/storage/ColumnType", "ofTag", "(B)Lcom/example/ashlar/ashlar/storage/ColumnType;"⟩ : MethodName) prog_13_method_5_code 5 (some (.object "com/example/ashlar/ashlar/storage/ColumnType")) :: ws) ({ frames := 2, cells := 1, slots := 4, locals := 25 } : Room)) (fun a U => a = #[(.int p1)] ∧ Z.Warmed39 U.vm ∧ U.heap = h0) (fun _ _ _ _ _ => True) (fun _ U o U' => ∃ v L, o = .returned v ∧ Q_of_3 Z p1 wV cl wS wL wD wF h0 n0 v U'.heap L ∧ FrameEnd U o U' L ({ frames := 2, cells := 1, slots := 4, locals := 25 } : Room).cells ({ frames := 2, cells := 1, slots := 4, locals := 25 } : Room).slots) := by
  refine MetFree.of_bodySF (plainFor_of_name pn_1) hisR ?_
  intro p e s m args below meth c s₁ Bd hml0 hP hK
  obtain ⟨rfl, hZ, hh⟩ := hP
  have hx := Bd.exec
  have hby := Bd.bytes
  have hml : c.maxLocals = 5 := hml0
  have hown : s.vm.findClass "com/example/ashlar/ashlar/storage/ColumnType" = some m.cls := findClass_of_methodNamed Bd.named
  have hnm := (name_of_methodNamed Bd.named Bd.method).1
  have X0 : Stand p l e ({ frames := 2, cells := 1, slots := 4, locals := 25 } : Room) s m #[(.int p1)] below meth c s₁ [] 0 0 := Stand.of_body Bd
  have e0 : s₁.heap = h0 := by rw [← hh, Bd.state]; rfl
  have N0 := Fr.nil n0
  have pre0 : ∀ t, Steps p.tables e below (s₁.setTop (mkF m 0 #[.val (.int p1), .unset, .unset, .unset, .unset] [])) t → Steps p.tables e below (s₁.setTop (entryFrame m #[(.int p1)] 5)) t := fun t k => castTop (ef_1 m p1) k
  obtain ⟨_, _, ⟨T2, L2, k2, n2⟩, -, X2, ⟨Lc2, hQ2, l2, y2, z2⟩, st2⟩ := Jvm.LawKit.callS X0 hx (y := (⟨"com/example/ashlar/ashlar/storage/ColumnType", "values", "()[Lcom/example/ashlar/ashlar/storage/ColumnType;"⟩ : MethodName)) hown (mvT hZ (hw _ (List.mem_of_getElem? (i := 4) rfl))) (mvT hZ (hw _ (List.mem_of_getElem? (i := 5) rfl))) (mvT hZ (hw _ (List.mem_of_getElem? (i := 2) rfl))) (mvT hZ (hw _ (List.mem_of_getElem? (i := 6) rfl))) (by decide) (backOf (W := 0) (rm_values l Z a0 hw []  wV cl h0 n0 Z0 S_V A_V E_V F_V hsz) hZ (hw _ (List.mem_of_getElem? (i := 6) rfl)) (hw _ (List.mem_of_getElem? (i := 2) rfl)) (by decide) (by decide)) (g := (mkF m 0 #[.val (.int p1), .unset, .unset, .unset, .unset] [])) rfl (by rw [hml]; rfl) (argsL := []) (rest := []) (lenOf pd_1_1 rfl) rfl (by show 2 * 0 + _ ≤ _; exact Nat.le_of_eq rfl) (hb hby d1_0) (fun _ _ => ⟨rfl, e0, (by decide : 0 + 1 ≤ _), (by decide : 0 + 4 ≤ _)⟩)
  dsimp only [Pt.U, Pt.locs, Pt.cells, Pt.slots] at X2 l2 y2 z2 st2 hQ2
  subst l2 y2 z2
  obtain ⟨bV, rfl, N2q, Ex2, Ar_bV⟩ := hQ2
  have N2 := Fr.app N0 N2q
  have hszc : (cloneOf cl).slots.size = 4 := hsz
  have S_bV : (cloneOf cl).slots.size = (4 : Int32).toNatClampNeg := hsz
  have N_bV : ¬ (4 : Int32) < 0 := by decide
  obtain ⟨T3, X3, e3, st3⟩ := getF X2 hx hZ hown (host := "") (Or.inl (hw _ (List.mem_of_getElem? (i := 23) rfl))) Via.refl rfl (F_wS.ext Ex2) (g := (mkF m 21 #[.val (.int p1), .val (.ref bV), .val (.int (4 : Int32)), .val (.int (0 : Int32)), .val (.ref wS)] [(.ref wS)])) rfl rfl (hb hby d1_21)
  obtain ⟨T4, X4, e4, st4⟩ := getF X3 hx hZ hown (host := "") (Or.inl (hw _ (List.mem_of_getElem? (i := 23) rfl))) Via.refl e3 (F_wL.ext Ex2) (g := (mkF m 21 #[.val (.int p1), .val (.ref bV), .val (.int (4 : Int32)), .val (.int ((0 : Int32) + (1 : Int32))), .val (.ref wL)] [(.ref wL)])) rfl rfl (hb hby d1_21)
  obtain ⟨T5, X5, e5, st5⟩ := getF X4 hx hZ hown (host := "") (Or.inl (hw _ (List.mem_of_getElem? (i := 23) rfl))) Via.refl e4 (F_wD.ext Ex2) (g := (mkF m 21 #[.val (.int p1), .val (.ref bV), .val (.int (4 : Int32)), .val (.int (((0 : Int32) + (1 : Int32)) + (1 : Int32))), .val (.ref wD)] [(.ref wD)])) rfl rfl (hb hby d1_21)
  obtain ⟨fs, hr, hrun, hended, hW, hsame⟩ := X5.leave (v := some (.ref wD)) (fun h => by rw [Bd.returns] at h; cases h)
  refine ⟨_, _, pre0 _ ?_, hrun, hended, _, _, rfl, ?_, ⟨_, rfl⟩, hW, hsame.mono (by decide) (by decide)⟩
  · show Steps p.tables e below (s₁.setTop (mkF m 0 #[.val (.int p1), .unset, .unset, .unset, .unset] [])) _
    refine st2 _ ?_
    show Steps p.tables e below (T2.setTop (mkF m 3 #[.val (.int p1), .unset, .unset, .unset, .unset] [(.ref bV)])) _
    refine XS.astoreN X2.here hx rfl (hb hby d1_3) rfl rfl (l' := #[.val (.int p1), .val (.ref bV), .unset, .unset, .unset]) rfl ?_
    show Steps p.tables e below (T2.setTop (mkF m 4 #[.val (.int p1), .val (.ref bV), .unset, .unset, .unset] [])) _
    refine XS.aloadN X2.here hx rfl (hb hby d1_4) rfl rfl ?_
    show Steps p.tables e below (T2.setTop (mkF m 5 #[.val (.int p1), .val (.ref bV), .unset, .unset, .unset] [(.ref bV)])) _
    refine X2.arraylength hx (by exact Ar_bV.1) (State.isArrayOf_alike hZ.alike Ar_bV.2.1) (g := (mkF m 5 #[.val (.int p1), .val (.ref bV), .unset, .unset, .unset] [(.ref bV)])) rfl rfl (hb hby d1_5) _ ?_
    rw [len_of S_bV N_bV]
    show Steps p.tables e below (T2.setTop (mkF m 6 #[.val (.int p1), .val (.ref bV), .unset, .unset, .unset] [(.int (4 : Int32))])) _
    refine XS.istoreN X2.here hx rfl (hb hby d1_6) rfl (l' := #[.val (.int p1), .val (.ref bV), .val (.int (4 : Int32)), .unset, .unset]) rfl ?_
    show Steps p.tables e below (T2.setTop (mkF m 7 #[.val (.int p1), .val (.ref bV), .val (.int (4 : Int32)), .unset, .unset] [])) _
    refine XS.iconst X2.here hx rfl (hb hby d1_7) ?_
    show Steps p.tables e below (T2.setTop (mkF m 8 #[.val (.int p1), .val (.ref bV), .val (.int (4 : Int32)), .unset, .unset] [(.int (0 : Int32))])) _
    refine XS.istoreN X2.here hx rfl (hb hby d1_8) rfl (l' := #[.val (.int p1), .val (.ref bV), .val (.int (4 : Int32)), .val (.int (0 : Int32)), .unset]) rfl ?_
    show Steps p.tables e below (T2.setTop (mkF m 9 #[.val (.int p1), .val (.ref bV), .val (.int (4 : Int32)), .val (.int (0 : Int32)), .unset] [])) _
    refine XS.iloadN X2.here hx rfl (hb hby d1_9) rfl ?_
    show Steps p.tables e below (T2.setTop (mkF m 10 #[.val (.int p1), .val (.ref bV), .val (.int (4 : Int32)), .val (.int (0 : Int32)), .unset] [(.int (0 : Int32))])) _
    refine XS.iloadN X2.here hx rfl (hb hby d1_10) rfl ?_
    show Steps p.tables e below (T2.setTop (mkF m 11 #[.val (.int p1), .val (.ref bV), .val (.int (4 : Int32)), .val (.int (0 : Int32)), .unset] [(.int (4 : Int32)), (.int (0 : Int32))])) _
    refine XS.icmpNo X2.here hx rfl (hb hby d1_11) rfl (tlt (by decide : (0 : Int32) < (4 : Int32))).2.1 ?_
    show Steps p.tables e below (T2.setTop (mkF m 14 #[.val (.int p1), .val (.ref bV), .val (.int (4 : Int32)), .val (.int (0 : Int32)), .unset] [])) _
    refine XS.aloadN X2.here hx rfl (hb hby d1_14) rfl rfl ?_
    show Steps p.tables e below (T2.setTop (mkF m 15 #[.val (.int p1), .val (.ref bV), .val (.int (4 : Int32)), .val (.int (0 : Int32)), .unset] [(.ref bV)])) _
    refine XS.iloadN X2.here hx rfl (hb hby d1_15) rfl ?_
    show Steps p.tables e below (T2.setTop (mkF m 16 #[.val (.int p1), .val (.ref bV), .val (.int (4 : Int32)), .val (.int (0 : Int32)), .unset] [(.int (0 : Int32)), (.ref bV)])) _
    refine X2.aaload hx (j := (0 : Int32)) (v := (.ref wS)) (by exact Ar_bV.1) (State.isArrayOf_alike hZ.alike Ar_bV.2.1) rfl Ar_bV.2.2 (by rw [hszc]; decide) (own_at (c := cloneOf cl) (by decide) hat_0) (g := (mkF m 16 #[.val (.int p1), .val (.ref bV), .val (.int (4 : Int32)), .val (.int (0 : Int32)), .unset] [(.int (0 : Int32)), (.ref bV)])) rfl rfl (hb hby d1_16) _ ?_
    show Steps p.tables e below (T2.setTop (mkF m 17 #[.val (.int p1), .val (.ref bV), .val (.int (4 : Int32)), .val (.int (0 : Int32)), .unset] [(.ref wS)])) _
    refine XS.astore X2.here hx rfl (hb hby d1_17) rfl rfl (l' := #[.val (.int p1), .val (.ref bV), .val (.int (4 : Int32)), .val (.int (0 : Int32)), .val (.ref wS)]) rfl ?_
    show Steps p.tables e below (T2.setTop (mkF m 19 #[.val (.int p1), .val (.ref bV), .val (.int (4 : Int32)), .val (.int (0 : Int32)), .val (.ref wS)] [])) _
    refine XS.aload X2.here hx rfl (hb hby d1_19) rfl rfl ?_
    show Steps p.tables e below (T2.setTop (mkF m 21 #[.val (.int p1), .val (.ref bV), .val (.int (4 : Int32)), .val (.int (0 : Int32)), .val (.ref wS)] [(.ref wS)])) _
    refine st3 _ ?_
    show Steps p.tables e below (T3.setTop (mkF m 24 #[.val (.int p1), .val (.ref bV), .val (.int (4 : Int32)), .val (.int (0 : Int32)), .val (.ref wS)] [(.int (1 : Int32))])) _
    refine XS.iloadN X3.here hx rfl (hb hby d1_24) rfl ?_
    show Steps p.tables e below (T3.setTop (mkF m 25 #[.val (.int p1), .val (.ref bV), .val (.int (4 : Int32)), .val (.int (0 : Int32)), .val (.ref wS)] [(.int p1), (.int (1 : Int32))])) _
    refine XS.icmpYes X3.here hx rfl (pc0 := 25) (pc' := 31) rfl (hb hby d1_25) rfl (feq hc25).2 (by decide) (by decide) ?_
    show Steps p.tables e below (T3.setTop (mkF m 31 #[.val (.int p1), .val (.ref bV), .val (.int (4 : Int32)), .val (.int (0 : Int32)), .val (.ref wS)] [])) _
    refine XS.iinc X3.here hx rfl (hb hby d1_31) rfl (l' := #[.val (.int p1), .val (.ref bV), .val (.int (4 : Int32)), .val (.int ((0 : Int32) + (1 : Int32))), .val (.ref wS)]) rfl ?_
    show Steps p.tables e below (T3.setTop (mkF m 34 #[.val (.int p1), .val (.ref bV), .val (.int (4 : Int32)), .val (.int ((0 : Int32) + (1 : Int32))), .val (.ref wS)] [])) _
    refine XS.goto X3.here hx rfl (pc0 := 34) (pc' := 9) rfl (hb hby d1_34) (by decide) (by decide) ?_
    show Steps p.tables e below (T3.setTop (mkF m 9 #[.val (.int p1), .val (.ref bV), .val (.int (4 : Int32)), .val (.int ((0 : Int32) + (1 : Int32))), .val (.ref wS)] [])) _
    refine XS.iloadN X3.here hx rfl (hb hby d1_9) rfl ?_
    show Steps p.tables e below (T3.setTop (mkF m 10 #[.val (.int p1), .val (.ref bV), .val (.int (4 : Int32)), .val (.int ((0 : Int32) + (1 : Int32))), .val (.ref wS)] [(.int ((0 : Int32) + (1 : Int32)))])) _
    refine XS.iloadN X3.here hx rfl (hb hby d1_10) rfl ?_
    show Steps p.tables e below (T3.setTop (mkF m 11 #[.val (.int p1), .val (.ref bV), .val (.int (4 : Int32)), .val (.int ((0 : Int32) + (1 : Int32))), .val (.ref wS)] [(.int (4 : Int32)), (.int ((0 : Int32) + (1 : Int32)))])) _
    refine XS.icmpNo X3.here hx rfl (hb hby d1_11) rfl (tlt (by decide : ((0 : Int32) + (1 : Int32)) < (4 : Int32))).2.1 ?_
    show Steps p.tables e below (T3.setTop (mkF m 14 #[.val (.int p1), .val (.ref bV), .val (.int (4 : Int32)), .val (.int ((0 : Int32) + (1 : Int32))), .val (.ref wS)] [])) _
    refine XS.aloadN X3.here hx rfl (hb hby d1_14) rfl rfl ?_
    show Steps p.tables e below (T3.setTop (mkF m 15 #[.val (.int p1), .val (.ref bV), .val (.int (4 : Int32)), .val (.int ((0 : Int32) + (1 : Int32))), .val (.ref wS)] [(.ref bV)])) _
    refine XS.iloadN X3.here hx rfl (hb hby d1_15) rfl ?_
    show Steps p.tables e below (T3.setTop (mkF m 16 #[.val (.int p1), .val (.ref bV), .val (.int (4 : Int32)), .val (.int ((0 : Int32) + (1 : Int32))), .val (.ref wS)] [(.int ((0 : Int32) + (1 : Int32))), (.ref bV)])) _
    refine X3.aaload hx (j := ((0 : Int32) + (1 : Int32))) (v := (.ref wL)) (by rw [e3]; exact Ar_bV.1) (State.isArrayOf_alike hZ.alike Ar_bV.2.1) rfl Ar_bV.2.2 (by rw [hszc]; decide) (own_at (c := cloneOf cl) (by decide) hat_1) (g := (mkF m 16 #[.val (.int p1), .val (.ref bV), .val (.int (4 : Int32)), .val (.int ((0 : Int32) + (1 : Int32))), .val (.ref wS)] [(.int ((0 : Int32) + (1 : Int32))), (.ref bV)])) rfl rfl (hb hby d1_16) _ ?_
    show Steps p.tables e below (T3.setTop (mkF m 17 #[.val (.int p1), .val (.ref bV), .val (.int (4 : Int32)), .val (.int ((0 : Int32) + (1 : Int32))), .val (.ref wS)] [(.ref wL)])) _
    refine XS.astore X3.here hx rfl (hb hby d1_17) rfl rfl (l' := #[.val (.int p1), .val (.ref bV), .val (.int (4 : Int32)), .val (.int ((0 : Int32) + (1 : Int32))), .val (.ref wL)]) rfl ?_
    show Steps p.tables e below (T3.setTop (mkF m 19 #[.val (.int p1), .val (.ref bV), .val (.int (4 : Int32)), .val (.int ((0 : Int32) + (1 : Int32))), .val (.ref wL)] [])) _
    refine XS.aload X3.here hx rfl (hb hby d1_19) rfl rfl ?_
    show Steps p.tables e below (T3.setTop (mkF m 21 #[.val (.int p1), .val (.ref bV), .val (.int (4 : Int32)), .val (.int ((0 : Int32) + (1 : Int32))), .val (.ref wL)] [(.ref wL)])) _
    refine st4 _ ?_
    show Steps p.tables e below (T4.setTop (mkF m 24 #[.val (.int p1), .val (.ref bV), .val (.int (4 : Int32)), .val (.int ((0 : Int32) + (1 : Int32))), .val (.ref wL)] [(.int (2 : Int32))])) _
    refine XS.iloadN X4.here hx rfl (hb hby d1_24) rfl ?_
    show Steps p.tables e below (T4.setTop (mkF m 25 #[.val (.int p1), .val (.ref bV), .val (.int (4 : Int32)), .val (.int ((0 : Int32) + (1 : Int32))), .val (.ref wL)] [(.int p1), (.int (2 : Int32))])) _
    refine XS.icmpYes X4.here hx rfl (pc0 := 25) (pc' := 31) rfl (hb hby d1_25) rfl (feq hc25_2).2 (by decide) (by decide) ?_
    show Steps p.tables e below (T4.setTop (mkF m 31 #[.val (.int p1), .val (.ref bV), .val (.int (4 : Int32)), .val (.int ((0 : Int32) + (1 : Int32))), .val (.ref wL)] [])) _
    refine XS.iinc X4.here hx rfl (hb hby d1_31) rfl (l' := #[.val (.int p1), .val (.ref bV), .val (.int (4 : Int32)), .val (.int (((0 : Int32) + (1 : Int32)) + (1 : Int32))), .val (.ref wL)]) rfl ?_
    show Steps p.tables e below (T4.setTop (mkF m 34 #[.val (.int p1), .val (.ref bV), .val (.int (4 : Int32)), .val (.int (((0 : Int32) + (1 : Int32)) + (1 : Int32))), .val (.ref wL)] [])) _
    refine XS.goto X4.here hx rfl (pc0 := 34) (pc' := 9) rfl (hb hby d1_34) (by decide) (by decide) ?_
    show Steps p.tables e below (T4.setTop (mkF m 9 #[.val (.int p1), .val (.ref bV), .val (.int (4 : Int32)), .val (.int (((0 : Int32) + (1 : Int32)) + (1 : Int32))), .val (.ref wL)] [])) _
    refine XS.iloadN X4.here hx rfl (hb hby d1_9) rfl ?_
    show Steps p.tables e below (T4.setTop (mkF m 10 #[.val (.int p1), .val (.ref bV), .val (.int (4 : Int32)), .val (.int (((0 : Int32) + (1 : Int32)) + (1 : Int32))), .val (.ref wL)] [(.int (((0 : Int32) + (1 : Int32)) + (1 : Int32)))])) _
    refine XS.iloadN X4.here hx rfl (hb hby d1_10) rfl ?_
    show Steps p.tables e below (T4.setTop (mkF m 11 #[.val (.int p1), .val (.ref bV), .val (.int (4 : Int32)), .val (.int (((0 : Int32) + (1 : Int32)) + (1 : Int32))), .val (.ref wL)] [(.int (4 : Int32)), (.int (((0 : Int32) + (1 : Int32)) + (1 : Int32)))])) _
    refine XS.icmpNo X4.here hx rfl (hb hby d1_11) rfl (tlt (by decide : (((0 : Int32) + (1 : Int32)) + (1 : Int32)) < (4 : Int32))).2.1 ?_
    show Steps p.tables e below (T4.setTop (mkF m 14 #[.val (.int p1), .val (.ref bV), .val (.int (4 : Int32)), .val (.int (((0 : Int32) + (1 : Int32)) + (1 : Int32))), .val (.ref wL)] [])) _
    refine XS.aloadN X4.here hx rfl (hb hby d1_14) rfl rfl ?_
    show Steps p.tables e below (T4.setTop (mkF m 15 #[.val (.int p1), .val (.ref bV), .val (.int (4 : Int32)), .val (.int (((0 : Int32) + (1 : Int32)) + (1 : Int32))), .val (.ref wL)] [(.ref bV)])) _
    refine XS.iloadN X4.here hx rfl (hb hby d1_15) rfl ?_
    show Steps p.tables e below (T4.setTop (mkF m 16 #[.val (.int p1), .val (.ref bV), .val (.int (4 : Int32)), .val (.int (((0 : Int32) + (1 : Int32)) + (1 : Int32))), .val (.ref wL)] [(.int (((0 : Int32) + (1 : Int32)) + (1 : Int32))), (.ref bV)])) _
    refine X4.aaload hx (j := (((0 : Int32) + (1 : Int32)) + (1 : Int32))) (v := (.ref wD)) (by rw [e4]; exact Ar_bV.1) (State.isArrayOf_alike hZ.alike Ar_bV.2.1) rfl Ar_bV.2.2 (by rw [hszc]; decide) (own_at (c := cloneOf cl) (by decide) hat_2) (g := (mkF m 16 #[.val (.int p1), .val (.ref bV), .val (.int (4 : Int32)), .val (.int (((0 : Int32) + (1 : Int32)) + (1 : Int32))), .val (.ref wL)] [(.int (((0 : Int32) + (1 : Int32)) + (1 : Int32))), (.ref bV)])) rfl rfl (hb hby d1_16) _ ?_
    show Steps p.tables e below (T4.setTop (mkF m 17 #[.val (.int p1), .val (.ref bV), .val (.int (4 : Int32)), .val (.int (((0 : Int32) + (1 : Int32)) + (1 : Int32))), .val (.ref wL)] [(.ref wD)])) _
    refine XS.astore X4.here hx rfl (hb hby d1_17) rfl rfl (l' := #[.val (.int p1), .val (.ref bV), .val (.int (4 : Int32)), .val (.int (((0 : Int32) + (1 : Int32)) + (1 : Int32))), .val (.ref wD)]) rfl ?_
    show Steps p.tables e below (T4.setTop (mkF m 19 #[.val (.int p1), .val (.ref bV), .val (.int (4 : Int32)), .val (.int (((0 : Int32) + (1 : Int32)) + (1 : Int32))), .val (.ref wD)] [])) _
    refine XS.aload X4.here hx rfl (hb hby d1_19) rfl rfl ?_
    show Steps p.tables e below (T4.setTop (mkF m 21 #[.val (.int p1), .val (.ref bV), .val (.int (4 : Int32)), .val (.int (((0 : Int32) + (1 : Int32)) + (1 : Int32))), .val (.ref wD)] [(.ref wD)])) _
    refine st5 _ ?_
    show Steps p.tables e below (T5.setTop (mkF m 24 #[.val (.int p1), .val (.ref bV), .val (.int (4 : Int32)), .val (.int (((0 : Int32) + (1 : Int32)) + (1 : Int32))), .val (.ref wD)] [(.int (3 : Int32))])) _
    refine XS.iloadN X5.here hx rfl (hb hby d1_24) rfl ?_
    show Steps p.tables e below (T5.setTop (mkF m 25 #[.val (.int p1), .val (.ref bV), .val (.int (4 : Int32)), .val (.int (((0 : Int32) + (1 : Int32)) + (1 : Int32))), .val (.ref wD)] [(.int p1), (.int (3 : Int32))])) _
    refine XS.icmpNo X5.here hx rfl (hb hby d1_25) rfl (teq hc25_3).2 ?_
    show Steps p.tables e below (T5.setTop (mkF m 28 #[.val (.int p1), .val (.ref bV), .val (.int (4 : Int32)), .val (.int (((0 : Int32) + (1 : Int32)) + (1 : Int32))), .val (.ref wD)] [])) _
    refine XS.aload X5.here hx rfl (hb hby d1_28) rfl rfl ?_
    show Steps p.tables e below (T5.setTop (mkF m 30 #[.val (.int p1), .val (.ref bV), .val (.int (4 : Int32)), .val (.int (((0 : Int32) + (1 : Int32)) + (1 : Int32))), .val (.ref wD)] [(.ref wD)])) _
    jvm_step X5.here [X5.here.top, hx, (hb hby d1_30), X5.method', Bd.returns, Value.isRef, FieldType.isReference]
    first | (intro acts; rw [hr _ acts rfl rfl rfl]) | rw [hr _ _ rfl rfl rfl]
    exact Steps.refl _
  · show Q_of_3 Z p1 wV cl wS wL wD wF h0 n0 _ T5.heap _
    rw [e5]
    exact ⟨rfl, N2, Ex2⟩
def Q_of_4 (Z : State) (p1 : Int32) (wV : Addr) (cl : Cell) (wS : Addr) (wL : Addr) (wD : Addr) (wF : Addr) (h0 : Heap) (n0 : Nat) (v : Option Value) (h : Heap) (L : List Loc) : Prop := v = some (.ref wF) ∧ Fr n0 L ∧ Ext h0 h
set_option maxRecDepth 65536 in
set_option maxHeartbeats 40000000 in
theorem rm_of_4 (l : Launch) (Z : State) (a0 : Array Value) (hw : ∀ d ∈ tables_1, d.before a0 Z = true) (ws : List Jvm.Cond) (p1 : Int32) (wV : Addr) (cl : Cell) (wS : Addr) (wL : Addr) (wD : Addr) (wF : Addr) (h0 : Heap) (n0 : Nat) (Z0 : n0 ≤ h0.size) (S_V : Sta Z h0 "com/example/ashlar/ashlar/storage/ColumnType" "$VALUES" "[Lcom/example/ashlar/ashlar/storage/ColumnType;" (.ref wV)) (A_V : Arr Z h0 wV cl (.object "com/example/ashlar/ashlar/storage/ColumnType")) (E_V : Exa Z h0 wV "[Lcom/example/ashlar/ashlar/storage/ColumnType;") (F_V : FitC Z cl) (hsz : cl.slots.size = 4) (hat_0 : cl.slots[0]? = some (.ref wS)) (hat_1 : cl.slots[1]? = some (.ref wL)) (hat_2 : cl.slots[2]? = some (.ref wD)) (hat_3 : cl.slots[3]? = some (.ref wF)) (F_wS : Fld Z h0 wS "com/example/ashlar/ashlar/storage/ColumnType" "tag" "B" (.int (1 : Int32))) (F_wL : Fld Z h0 wL "com/example/ashlar/ashlar/storage/ColumnType" "tag" "B" (.int (2 : Int32))) (F_wD : Fld Z h0 wD "com/example/ashlar/ashlar/storage/ColumnType" "tag" "B" (.int (3 : Int32))) (F_wF : Fld Z h0 wF "com/example/ashlar/ashlar/storage/ColumnType" "tag" "B" (.int (4 : Int32))) (hc25 : ¬ ((1 : Int32) = p1)) (hc25_2 : ¬ ((2 : Int32) = p1)) (hc25_3 : ¬ ((3 : Int32) = p1)) (hc25_4 : (4 : Int32) = p1) :
    MetFree l (⟨"com/example/ashlar/ashlar/storage/ColumnType", "ofTag", "(B)Lcom/example/ashlar/ashlar/storage/ColumnType;"⟩ : MethodName) (head1 (Jvm.Cond.code (⟨"com/example/ashlar/ashlar/storage/ColumnType", "ofTag", "(B)Lcom/example/ashlar/ashlar/storage/ColumnType;"⟩ : MethodName) prog_13_method_5_code 5 (some (.object "com/example/ashlar/ashlar/storage/ColumnType")) :: ws) ({ frames := 2, cells := 1, slots := 4, locals := 25 } : Room)) (fun a U => a = #[(.int p1)] ∧ Z.Warmed39 U.vm ∧ U.heap = h0) (fun _ _ _ _ _ => True) (fun _ U o U' => ∃ v L, o = .returned v ∧ Q_of_4 Z p1 wV cl wS wL wD wF h0 n0 v U'.heap L ∧ FrameEnd U o U' L ({ frames := 2, cells := 1, slots := 4, locals := 25 } : Room).cells ({ frames := 2, cells := 1, slots := 4, locals := 25 } : Room).slots) := by
  refine MetFree.of_bodySF (plainFor_of_name pn_1) hisR ?_
  intro p e s m args below meth c s₁ Bd hml0 hP hK
  obtain ⟨rfl, hZ, hh⟩ := hP
  have hx := Bd.exec
  have hby := Bd.bytes
  have hml : c.maxLocals = 5 := hml0
  have hown : s.vm.findClass "com/example/ashlar/ashlar/storage/ColumnType" = some m.cls := findClass_of_methodNamed Bd.named
  have hnm := (name_of_methodNamed Bd.named Bd.method).1
  have X0 : Stand p l e ({ frames := 2, cells := 1, slots := 4, locals := 25 } : Room) s m #[(.int p1)] below meth c s₁ [] 0 0 := Stand.of_body Bd
  have e0 : s₁.heap = h0 := by rw [← hh, Bd.state]; rfl
  have N0 := Fr.nil n0
  have pre0 : ∀ t, Steps p.tables e below (s₁.setTop (mkF m 0 #[.val (.int p1), .unset, .unset, .unset, .unset] [])) t → Steps p.tables e below (s₁.setTop (entryFrame m #[(.int p1)] 5)) t := fun t k => castTop (ef_1 m p1) k
  obtain ⟨_, _, ⟨T2, L2, k2, n2⟩, -, X2, ⟨Lc2, hQ2, l2, y2, z2⟩, st2⟩ := Jvm.LawKit.callS X0 hx (y := (⟨"com/example/ashlar/ashlar/storage/ColumnType", "values", "()[Lcom/example/ashlar/ashlar/storage/ColumnType;"⟩ : MethodName)) hown (mvT hZ (hw _ (List.mem_of_getElem? (i := 4) rfl))) (mvT hZ (hw _ (List.mem_of_getElem? (i := 5) rfl))) (mvT hZ (hw _ (List.mem_of_getElem? (i := 2) rfl))) (mvT hZ (hw _ (List.mem_of_getElem? (i := 6) rfl))) (by decide) (backOf (W := 0) (rm_values l Z a0 hw []  wV cl h0 n0 Z0 S_V A_V E_V F_V hsz) hZ (hw _ (List.mem_of_getElem? (i := 6) rfl)) (hw _ (List.mem_of_getElem? (i := 2) rfl)) (by decide) (by decide)) (g := (mkF m 0 #[.val (.int p1), .unset, .unset, .unset, .unset] [])) rfl (by rw [hml]; rfl) (argsL := []) (rest := []) (lenOf pd_1_1 rfl) rfl (by show 2 * 0 + _ ≤ _; exact Nat.le_of_eq rfl) (hb hby d1_0) (fun _ _ => ⟨rfl, e0, (by decide : 0 + 1 ≤ _), (by decide : 0 + 4 ≤ _)⟩)
  dsimp only [Pt.U, Pt.locs, Pt.cells, Pt.slots] at X2 l2 y2 z2 st2 hQ2
  subst l2 y2 z2
  obtain ⟨bV, rfl, N2q, Ex2, Ar_bV⟩ := hQ2
  have N2 := Fr.app N0 N2q
  have hszc : (cloneOf cl).slots.size = 4 := hsz
  have S_bV : (cloneOf cl).slots.size = (4 : Int32).toNatClampNeg := hsz
  have N_bV : ¬ (4 : Int32) < 0 := by decide
  obtain ⟨T3, X3, e3, st3⟩ := getF X2 hx hZ hown (host := "") (Or.inl (hw _ (List.mem_of_getElem? (i := 23) rfl))) Via.refl rfl (F_wS.ext Ex2) (g := (mkF m 21 #[.val (.int p1), .val (.ref bV), .val (.int (4 : Int32)), .val (.int (0 : Int32)), .val (.ref wS)] [(.ref wS)])) rfl rfl (hb hby d1_21)
  obtain ⟨T4, X4, e4, st4⟩ := getF X3 hx hZ hown (host := "") (Or.inl (hw _ (List.mem_of_getElem? (i := 23) rfl))) Via.refl e3 (F_wL.ext Ex2) (g := (mkF m 21 #[.val (.int p1), .val (.ref bV), .val (.int (4 : Int32)), .val (.int ((0 : Int32) + (1 : Int32))), .val (.ref wL)] [(.ref wL)])) rfl rfl (hb hby d1_21)
  obtain ⟨T5, X5, e5, st5⟩ := getF X4 hx hZ hown (host := "") (Or.inl (hw _ (List.mem_of_getElem? (i := 23) rfl))) Via.refl e4 (F_wD.ext Ex2) (g := (mkF m 21 #[.val (.int p1), .val (.ref bV), .val (.int (4 : Int32)), .val (.int (((0 : Int32) + (1 : Int32)) + (1 : Int32))), .val (.ref wD)] [(.ref wD)])) rfl rfl (hb hby d1_21)
  obtain ⟨T6, X6, e6, st6⟩ := getF X5 hx hZ hown (host := "") (Or.inl (hw _ (List.mem_of_getElem? (i := 23) rfl))) Via.refl e5 (F_wF.ext Ex2) (g := (mkF m 21 #[.val (.int p1), .val (.ref bV), .val (.int (4 : Int32)), .val (.int ((((0 : Int32) + (1 : Int32)) + (1 : Int32)) + (1 : Int32))), .val (.ref wF)] [(.ref wF)])) rfl rfl (hb hby d1_21)
  obtain ⟨fs, hr, hrun, hended, hW, hsame⟩ := X6.leave (v := some (.ref wF)) (fun h => by rw [Bd.returns] at h; cases h)
  refine ⟨_, _, pre0 _ ?_, hrun, hended, _, _, rfl, ?_, ⟨_, rfl⟩, hW, hsame.mono (by decide) (by decide)⟩
  · show Steps p.tables e below (s₁.setTop (mkF m 0 #[.val (.int p1), .unset, .unset, .unset, .unset] [])) _
    refine st2 _ ?_
    show Steps p.tables e below (T2.setTop (mkF m 3 #[.val (.int p1), .unset, .unset, .unset, .unset] [(.ref bV)])) _
    refine XS.astoreN X2.here hx rfl (hb hby d1_3) rfl rfl (l' := #[.val (.int p1), .val (.ref bV), .unset, .unset, .unset]) rfl ?_
    show Steps p.tables e below (T2.setTop (mkF m 4 #[.val (.int p1), .val (.ref bV), .unset, .unset, .unset] [])) _
    refine XS.aloadN X2.here hx rfl (hb hby d1_4) rfl rfl ?_
    show Steps p.tables e below (T2.setTop (mkF m 5 #[.val (.int p1), .val (.ref bV), .unset, .unset, .unset] [(.ref bV)])) _
    refine X2.arraylength hx (by exact Ar_bV.1) (State.isArrayOf_alike hZ.alike Ar_bV.2.1) (g := (mkF m 5 #[.val (.int p1), .val (.ref bV), .unset, .unset, .unset] [(.ref bV)])) rfl rfl (hb hby d1_5) _ ?_
    rw [len_of S_bV N_bV]
    show Steps p.tables e below (T2.setTop (mkF m 6 #[.val (.int p1), .val (.ref bV), .unset, .unset, .unset] [(.int (4 : Int32))])) _
    refine XS.istoreN X2.here hx rfl (hb hby d1_6) rfl (l' := #[.val (.int p1), .val (.ref bV), .val (.int (4 : Int32)), .unset, .unset]) rfl ?_
    show Steps p.tables e below (T2.setTop (mkF m 7 #[.val (.int p1), .val (.ref bV), .val (.int (4 : Int32)), .unset, .unset] [])) _
    refine XS.iconst X2.here hx rfl (hb hby d1_7) ?_
    show Steps p.tables e below (T2.setTop (mkF m 8 #[.val (.int p1), .val (.ref bV), .val (.int (4 : Int32)), .unset, .unset] [(.int (0 : Int32))])) _
    refine XS.istoreN X2.here hx rfl (hb hby d1_8) rfl (l' := #[.val (.int p1), .val (.ref bV), .val (.int (4 : Int32)), .val (.int (0 : Int32)), .unset]) rfl ?_
    show Steps p.tables e below (T2.setTop (mkF m 9 #[.val (.int p1), .val (.ref bV), .val (.int (4 : Int32)), .val (.int (0 : Int32)), .unset] [])) _
    refine XS.iloadN X2.here hx rfl (hb hby d1_9) rfl ?_
    show Steps p.tables e below (T2.setTop (mkF m 10 #[.val (.int p1), .val (.ref bV), .val (.int (4 : Int32)), .val (.int (0 : Int32)), .unset] [(.int (0 : Int32))])) _
    refine XS.iloadN X2.here hx rfl (hb hby d1_10) rfl ?_
    show Steps p.tables e below (T2.setTop (mkF m 11 #[.val (.int p1), .val (.ref bV), .val (.int (4 : Int32)), .val (.int (0 : Int32)), .unset] [(.int (4 : Int32)), (.int (0 : Int32))])) _
    refine XS.icmpNo X2.here hx rfl (hb hby d1_11) rfl (tlt (by decide : (0 : Int32) < (4 : Int32))).2.1 ?_
    show Steps p.tables e below (T2.setTop (mkF m 14 #[.val (.int p1), .val (.ref bV), .val (.int (4 : Int32)), .val (.int (0 : Int32)), .unset] [])) _
    refine XS.aloadN X2.here hx rfl (hb hby d1_14) rfl rfl ?_
    show Steps p.tables e below (T2.setTop (mkF m 15 #[.val (.int p1), .val (.ref bV), .val (.int (4 : Int32)), .val (.int (0 : Int32)), .unset] [(.ref bV)])) _
    refine XS.iloadN X2.here hx rfl (hb hby d1_15) rfl ?_
    show Steps p.tables e below (T2.setTop (mkF m 16 #[.val (.int p1), .val (.ref bV), .val (.int (4 : Int32)), .val (.int (0 : Int32)), .unset] [(.int (0 : Int32)), (.ref bV)])) _
    refine X2.aaload hx (j := (0 : Int32)) (v := (.ref wS)) (by exact Ar_bV.1) (State.isArrayOf_alike hZ.alike Ar_bV.2.1) rfl Ar_bV.2.2 (by rw [hszc]; decide) (own_at (c := cloneOf cl) (by decide) hat_0) (g := (mkF m 16 #[.val (.int p1), .val (.ref bV), .val (.int (4 : Int32)), .val (.int (0 : Int32)), .unset] [(.int (0 : Int32)), (.ref bV)])) rfl rfl (hb hby d1_16) _ ?_
    show Steps p.tables e below (T2.setTop (mkF m 17 #[.val (.int p1), .val (.ref bV), .val (.int (4 : Int32)), .val (.int (0 : Int32)), .unset] [(.ref wS)])) _
    refine XS.astore X2.here hx rfl (hb hby d1_17) rfl rfl (l' := #[.val (.int p1), .val (.ref bV), .val (.int (4 : Int32)), .val (.int (0 : Int32)), .val (.ref wS)]) rfl ?_
    show Steps p.tables e below (T2.setTop (mkF m 19 #[.val (.int p1), .val (.ref bV), .val (.int (4 : Int32)), .val (.int (0 : Int32)), .val (.ref wS)] [])) _
    refine XS.aload X2.here hx rfl (hb hby d1_19) rfl rfl ?_
    show Steps p.tables e below (T2.setTop (mkF m 21 #[.val (.int p1), .val (.ref bV), .val (.int (4 : Int32)), .val (.int (0 : Int32)), .val (.ref wS)] [(.ref wS)])) _
    refine st3 _ ?_
    show Steps p.tables e below (T3.setTop (mkF m 24 #[.val (.int p1), .val (.ref bV), .val (.int (4 : Int32)), .val (.int (0 : Int32)), .val (.ref wS)] [(.int (1 : Int32))])) _
    refine XS.iloadN X3.here hx rfl (hb hby d1_24) rfl ?_
    show Steps p.tables e below (T3.setTop (mkF m 25 #[.val (.int p1), .val (.ref bV), .val (.int (4 : Int32)), .val (.int (0 : Int32)), .val (.ref wS)] [(.int p1), (.int (1 : Int32))])) _
    refine XS.icmpYes X3.here hx rfl (pc0 := 25) (pc' := 31) rfl (hb hby d1_25) rfl (feq hc25).2 (by decide) (by decide) ?_
    show Steps p.tables e below (T3.setTop (mkF m 31 #[.val (.int p1), .val (.ref bV), .val (.int (4 : Int32)), .val (.int (0 : Int32)), .val (.ref wS)] [])) _
    refine XS.iinc X3.here hx rfl (hb hby d1_31) rfl (l' := #[.val (.int p1), .val (.ref bV), .val (.int (4 : Int32)), .val (.int ((0 : Int32) + (1 : Int32))), .val (.ref wS)]) rfl ?_
    show Steps p.tables e below (T3.setTop (mkF m 34 #[.val (.int p1), .val (.ref bV), .val (.int (4 : Int32)), .val (.int ((0 : Int32) + (1 : Int32))), .val (.ref wS)] [])) _
    refine XS.goto X3.here hx rfl (pc0 := 34) (pc' := 9) rfl (hb hby d1_34) (by decide) (by decide) ?_
    show Steps p.tables e below (T3.setTop (mkF m 9 #[.val (.int p1), .val (.ref bV), .val (.int (4 : Int32)), .val (.int ((0 : Int32) + (1 : Int32))), .val (.ref wS)] [])) _
    refine XS.iloadN X3.here hx rfl (hb hby d1_9) rfl ?_
    show Steps p.tables e below (T3.setTop (mkF m 10 #[.val (.int p1), .val (.ref bV), .val (.int (4 : Int32)), .val (.int ((0 : Int32) + (1 : Int32))), .val (.ref wS)] [(.int ((0 : Int32) + (1 : Int32)))])) _
    refine XS.iloadN X3.here hx rfl (hb hby d1_10) rfl ?_
    show Steps p.tables e below (T3.setTop (mkF m 11 #[.val (.int p1), .val (.ref bV), .val (.int (4 : Int32)), .val (.int ((0 : Int32) + (1 : Int32))), .val (.ref wS)] [(.int (4 : Int32)), (.int ((0 : Int32) + (1 : Int32)))])) _
    refine XS.icmpNo X3.here hx rfl (hb hby d1_11) rfl (tlt (by decide : ((0 : Int32) + (1 : Int32)) < (4 : Int32))).2.1 ?_
    show Steps p.tables e below (T3.setTop (mkF m 14 #[.val (.int p1), .val (.ref bV), .val (.int (4 : Int32)), .val (.int ((0 : Int32) + (1 : Int32))), .val (.ref wS)] [])) _
    refine XS.aloadN X3.here hx rfl (hb hby d1_14) rfl rfl ?_
    show Steps p.tables e below (T3.setTop (mkF m 15 #[.val (.int p1), .val (.ref bV), .val (.int (4 : Int32)), .val (.int ((0 : Int32) + (1 : Int32))), .val (.ref wS)] [(.ref bV)])) _
    refine XS.iloadN X3.here hx rfl (hb hby d1_15) rfl ?_
    show Steps p.tables e below (T3.setTop (mkF m 16 #[.val (.int p1), .val (.ref bV), .val (.int (4 : Int32)), .val (.int ((0 : Int32) + (1 : Int32))), .val (.ref wS)] [(.int ((0 : Int32) + (1 : Int32))), (.ref bV)])) _
    refine X3.aaload hx (j := ((0 : Int32) + (1 : Int32))) (v := (.ref wL)) (by rw [e3]; exact Ar_bV.1) (State.isArrayOf_alike hZ.alike Ar_bV.2.1) rfl Ar_bV.2.2 (by rw [hszc]; decide) (own_at (c := cloneOf cl) (by decide) hat_1) (g := (mkF m 16 #[.val (.int p1), .val (.ref bV), .val (.int (4 : Int32)), .val (.int ((0 : Int32) + (1 : Int32))), .val (.ref wS)] [(.int ((0 : Int32) + (1 : Int32))), (.ref bV)])) rfl rfl (hb hby d1_16) _ ?_
    show Steps p.tables e below (T3.setTop (mkF m 17 #[.val (.int p1), .val (.ref bV), .val (.int (4 : Int32)), .val (.int ((0 : Int32) + (1 : Int32))), .val (.ref wS)] [(.ref wL)])) _
    refine XS.astore X3.here hx rfl (hb hby d1_17) rfl rfl (l' := #[.val (.int p1), .val (.ref bV), .val (.int (4 : Int32)), .val (.int ((0 : Int32) + (1 : Int32))), .val (.ref wL)]) rfl ?_
    show Steps p.tables e below (T3.setTop (mkF m 19 #[.val (.int p1), .val (.ref bV), .val (.int (4 : Int32)), .val (.int ((0 : Int32) + (1 : Int32))), .val (.ref wL)] [])) _
    refine XS.aload X3.here hx rfl (hb hby d1_19) rfl rfl ?_
    show Steps p.tables e below (T3.setTop (mkF m 21 #[.val (.int p1), .val (.ref bV), .val (.int (4 : Int32)), .val (.int ((0 : Int32) + (1 : Int32))), .val (.ref wL)] [(.ref wL)])) _
    refine st4 _ ?_
    show Steps p.tables e below (T4.setTop (mkF m 24 #[.val (.int p1), .val (.ref bV), .val (.int (4 : Int32)), .val (.int ((0 : Int32) + (1 : Int32))), .val (.ref wL)] [(.int (2 : Int32))])) _
    refine XS.iloadN X4.here hx rfl (hb hby d1_24) rfl ?_
    show Steps p.tables e below (T4.setTop (mkF m 25 #[.val (.int p1), .val (.ref bV), .val (.int (4 : Int32)), .val (.int ((0 : Int32) + (1 : Int32))), .val (.ref wL)] [(.int p1), (.int (2 : Int32))])) _
    refine XS.icmpYes X4.here hx rfl (pc0 := 25) (pc' := 31) rfl (hb hby d1_25) rfl (feq hc25_2).2 (by decide) (by decide) ?_
    show Steps p.tables e below (T4.setTop (mkF m 31 #[.val (.int p1), .val (.ref bV), .val (.int (4 : Int32)), .val (.int ((0 : Int32) + (1 : Int32))), .val (.ref wL)] [])) _
    refine XS.iinc X4.here hx rfl (hb hby d1_31) rfl (l' := #[.val (.int p1), .val (.ref bV), .val (.int (4 : Int32)), .val (.int (((0 : Int32) + (1 : Int32)) + (1 : Int32))), .val (.ref wL)]) rfl ?_
    show Steps p.tables e below (T4.setTop (mkF m 34 #[.val (.int p1), .val (.ref bV), .val (.int (4 : Int32)), .val (.int (((0 : Int32) + (1 : Int32)) + (1 : Int32))), .val (.ref wL)] [])) _
    refine XS.goto X4.here hx rfl (pc0 := 34) (pc' := 9) rfl (hb hby d1_34) (by decide) (by decide) ?_
    show Steps p.tables e below (T4.setTop (mkF m 9 #[.val (.int p1), .val (.ref bV), .val (.int (4 : Int32)), .val (.int (((0 : Int32) + (1 : Int32)) + (1 : Int32))), .val (.ref wL)] [])) _
    refine XS.iloadN X4.here hx rfl (hb hby d1_9) rfl ?_
    show Steps p.tables e below (T4.setTop (mkF m 10 #[.val (.int p1), .val (.ref bV), .val (.int (4 : Int32)), .val (.int (((0 : Int32) + (1 : Int32)) + (1 : Int32))), .val (.ref wL)] [(.int (((0 : Int32) + (1 : Int32)) + (1 : Int32)))])) _
    refine XS.iloadN X4.here hx rfl (hb hby d1_10) rfl ?_
    show Steps p.tables e below (T4.setTop (mkF m 11 #[.val (.int p1), .val (.ref bV), .val (.int (4 : Int32)), .val (.int (((0 : Int32) + (1 : Int32)) + (1 : Int32))), .val (.ref wL)] [(.int (4 : Int32)), (.int (((0 : Int32) + (1 : Int32)) + (1 : Int32)))])) _
    refine XS.icmpNo X4.here hx rfl (hb hby d1_11) rfl (tlt (by decide : (((0 : Int32) + (1 : Int32)) + (1 : Int32)) < (4 : Int32))).2.1 ?_
    show Steps p.tables e below (T4.setTop (mkF m 14 #[.val (.int p1), .val (.ref bV), .val (.int (4 : Int32)), .val (.int (((0 : Int32) + (1 : Int32)) + (1 : Int32))), .val (.ref wL)] [])) _
    refine XS.aloadN X4.here hx rfl (hb hby d1_14) rfl rfl ?_
    show Steps p.tables e below (T4.setTop (mkF m 15 #[.val (.int p1), .val (.ref bV), .val (.int (4 : Int32)), .val (.int (((0 : Int32) + (1 : Int32)) + (1 : Int32))), .val (.ref wL)] [(.ref bV)])) _
    refine XS.iloadN X4.here hx rfl (hb hby d1_15) rfl ?_
    show Steps p.tables e below (T4.setTop (mkF m 16 #[.val (.int p1), .val (.ref bV), .val (.int (4 : Int32)), .val (.int (((0 : Int32) + (1 : Int32)) + (1 : Int32))), .val (.ref wL)] [(.int (((0 : Int32) + (1 : Int32)) + (1 : Int32))), (.ref bV)])) _
    refine X4.aaload hx (j := (((0 : Int32) + (1 : Int32)) + (1 : Int32))) (v := (.ref wD)) (by rw [e4]; exact Ar_bV.1) (State.isArrayOf_alike hZ.alike Ar_bV.2.1) rfl Ar_bV.2.2 (by rw [hszc]; decide) (own_at (c := cloneOf cl) (by decide) hat_2) (g := (mkF m 16 #[.val (.int p1), .val (.ref bV), .val (.int (4 : Int32)), .val (.int (((0 : Int32) + (1 : Int32)) + (1 : Int32))), .val (.ref wL)] [(.int (((0 : Int32) + (1 : Int32)) + (1 : Int32))), (.ref bV)])) rfl rfl (hb hby d1_16) _ ?_
    show Steps p.tables e below (T4.setTop (mkF m 17 #[.val (.int p1), .val (.ref bV), .val (.int (4 : Int32)), .val (.int (((0 : Int32) + (1 : Int32)) + (1 : Int32))), .val (.ref wL)] [(.ref wD)])) _
    refine XS.astore X4.here hx rfl (hb hby d1_17) rfl rfl (l' := #[.val (.int p1), .val (.ref bV), .val (.int (4 : Int32)), .val (.int (((0 : Int32) + (1 : Int32)) + (1 : Int32))), .val (.ref wD)]) rfl ?_
    show Steps p.tables e below (T4.setTop (mkF m 19 #[.val (.int p1), .val (.ref bV), .val (.int (4 : Int32)), .val (.int (((0 : Int32) + (1 : Int32)) + (1 : Int32))), .val (.ref wD)] [])) _
    refine XS.aload X4.here hx rfl (hb hby d1_19) rfl rfl ?_
    show Steps p.tables e below (T4.setTop (mkF m 21 #[.val (.int p1), .val (.ref bV), .val (.int (4 : Int32)), .val (.int (((0 : Int32) + (1 : Int32)) + (1 : Int32))), .val (.ref wD)] [(.ref wD)])) _
    refine st5 _ ?_
    show Steps p.tables e below (T5.setTop (mkF m 24 #[.val (.int p1), .val (.ref bV), .val (.int (4 : Int32)), .val (.int (((0 : Int32) + (1 : Int32)) + (1 : Int32))), .val (.ref wD)] [(.int (3 : Int32))])) _
    refine XS.iloadN X5.here hx rfl (hb hby d1_24) rfl ?_
    show Steps p.tables e below (T5.setTop (mkF m 25 #[.val (.int p1), .val (.ref bV), .val (.int (4 : Int32)), .val (.int (((0 : Int32) + (1 : Int32)) + (1 : Int32))), .val (.ref wD)] [(.int p1), (.int (3 : Int32))])) _
    refine XS.icmpYes X5.here hx rfl (pc0 := 25) (pc' := 31) rfl (hb hby d1_25) rfl (feq hc25_3).2 (by decide) (by decide) ?_
    show Steps p.tables e below (T5.setTop (mkF m 31 #[.val (.int p1), .val (.ref bV), .val (.int (4 : Int32)), .val (.int (((0 : Int32) + (1 : Int32)) + (1 : Int32))), .val (.ref wD)] [])) _
    refine XS.iinc X5.here hx rfl (hb hby d1_31) rfl (l' := #[.val (.int p1), .val (.ref bV), .val (.int (4 : Int32)), .val (.int ((((0 : Int32) + (1 : Int32)) + (1 : Int32)) + (1 : Int32))), .val (.ref wD)]) rfl ?_
    show Steps p.tables e below (T5.setTop (mkF m 34 #[.val (.int p1), .val (.ref bV), .val (.int (4 : Int32)), .val (.int ((((0 : Int32) + (1 : Int32)) + (1 : Int32)) + (1 : Int32))), .val (.ref wD)] [])) _
    refine XS.goto X5.here hx rfl (pc0 := 34) (pc' := 9) rfl (hb hby d1_34) (by decide) (by decide) ?_
    show Steps p.tables e below (T5.setTop (mkF m 9 #[.val (.int p1), .val (.ref bV), .val (.int (4 : Int32)), .val (.int ((((0 : Int32) + (1 : Int32)) + (1 : Int32)) + (1 : Int32))), .val (.ref wD)] [])) _
    refine XS.iloadN X5.here hx rfl (hb hby d1_9) rfl ?_
    show Steps p.tables e below (T5.setTop (mkF m 10 #[.val (.int p1), .val (.ref bV), .val (.int (4 : Int32)), .val (.int ((((0 : Int32) + (1 : Int32)) + (1 : Int32)) + (1 : Int32))), .val (.ref wD)] [(.int ((((0 : Int32) + (1 : Int32)) + (1 : Int32)) + (1 : Int32)))])) _
    refine XS.iloadN X5.here hx rfl (hb hby d1_10) rfl ?_
    show Steps p.tables e below (T5.setTop (mkF m 11 #[.val (.int p1), .val (.ref bV), .val (.int (4 : Int32)), .val (.int ((((0 : Int32) + (1 : Int32)) + (1 : Int32)) + (1 : Int32))), .val (.ref wD)] [(.int (4 : Int32)), (.int ((((0 : Int32) + (1 : Int32)) + (1 : Int32)) + (1 : Int32)))])) _
    refine XS.icmpNo X5.here hx rfl (hb hby d1_11) rfl (tlt (by decide : ((((0 : Int32) + (1 : Int32)) + (1 : Int32)) + (1 : Int32)) < (4 : Int32))).2.1 ?_
    show Steps p.tables e below (T5.setTop (mkF m 14 #[.val (.int p1), .val (.ref bV), .val (.int (4 : Int32)), .val (.int ((((0 : Int32) + (1 : Int32)) + (1 : Int32)) + (1 : Int32))), .val (.ref wD)] [])) _
    refine XS.aloadN X5.here hx rfl (hb hby d1_14) rfl rfl ?_
    show Steps p.tables e below (T5.setTop (mkF m 15 #[.val (.int p1), .val (.ref bV), .val (.int (4 : Int32)), .val (.int ((((0 : Int32) + (1 : Int32)) + (1 : Int32)) + (1 : Int32))), .val (.ref wD)] [(.ref bV)])) _
    refine XS.iloadN X5.here hx rfl (hb hby d1_15) rfl ?_
    show Steps p.tables e below (T5.setTop (mkF m 16 #[.val (.int p1), .val (.ref bV), .val (.int (4 : Int32)), .val (.int ((((0 : Int32) + (1 : Int32)) + (1 : Int32)) + (1 : Int32))), .val (.ref wD)] [(.int ((((0 : Int32) + (1 : Int32)) + (1 : Int32)) + (1 : Int32))), (.ref bV)])) _
    refine X5.aaload hx (j := ((((0 : Int32) + (1 : Int32)) + (1 : Int32)) + (1 : Int32))) (v := (.ref wF)) (by rw [e5]; exact Ar_bV.1) (State.isArrayOf_alike hZ.alike Ar_bV.2.1) rfl Ar_bV.2.2 (by rw [hszc]; decide) (own_at (c := cloneOf cl) (by decide) hat_3) (g := (mkF m 16 #[.val (.int p1), .val (.ref bV), .val (.int (4 : Int32)), .val (.int ((((0 : Int32) + (1 : Int32)) + (1 : Int32)) + (1 : Int32))), .val (.ref wD)] [(.int ((((0 : Int32) + (1 : Int32)) + (1 : Int32)) + (1 : Int32))), (.ref bV)])) rfl rfl (hb hby d1_16) _ ?_
    show Steps p.tables e below (T5.setTop (mkF m 17 #[.val (.int p1), .val (.ref bV), .val (.int (4 : Int32)), .val (.int ((((0 : Int32) + (1 : Int32)) + (1 : Int32)) + (1 : Int32))), .val (.ref wD)] [(.ref wF)])) _
    refine XS.astore X5.here hx rfl (hb hby d1_17) rfl rfl (l' := #[.val (.int p1), .val (.ref bV), .val (.int (4 : Int32)), .val (.int ((((0 : Int32) + (1 : Int32)) + (1 : Int32)) + (1 : Int32))), .val (.ref wF)]) rfl ?_
    show Steps p.tables e below (T5.setTop (mkF m 19 #[.val (.int p1), .val (.ref bV), .val (.int (4 : Int32)), .val (.int ((((0 : Int32) + (1 : Int32)) + (1 : Int32)) + (1 : Int32))), .val (.ref wF)] [])) _
    refine XS.aload X5.here hx rfl (hb hby d1_19) rfl rfl ?_
    show Steps p.tables e below (T5.setTop (mkF m 21 #[.val (.int p1), .val (.ref bV), .val (.int (4 : Int32)), .val (.int ((((0 : Int32) + (1 : Int32)) + (1 : Int32)) + (1 : Int32))), .val (.ref wF)] [(.ref wF)])) _
    refine st6 _ ?_
    show Steps p.tables e below (T6.setTop (mkF m 24 #[.val (.int p1), .val (.ref bV), .val (.int (4 : Int32)), .val (.int ((((0 : Int32) + (1 : Int32)) + (1 : Int32)) + (1 : Int32))), .val (.ref wF)] [(.int (4 : Int32))])) _
    refine XS.iloadN X6.here hx rfl (hb hby d1_24) rfl ?_
    show Steps p.tables e below (T6.setTop (mkF m 25 #[.val (.int p1), .val (.ref bV), .val (.int (4 : Int32)), .val (.int ((((0 : Int32) + (1 : Int32)) + (1 : Int32)) + (1 : Int32))), .val (.ref wF)] [(.int p1), (.int (4 : Int32))])) _
    refine XS.icmpNo X6.here hx rfl (hb hby d1_25) rfl (teq hc25_4).2 ?_
    show Steps p.tables e below (T6.setTop (mkF m 28 #[.val (.int p1), .val (.ref bV), .val (.int (4 : Int32)), .val (.int ((((0 : Int32) + (1 : Int32)) + (1 : Int32)) + (1 : Int32))), .val (.ref wF)] [])) _
    refine XS.aload X6.here hx rfl (hb hby d1_28) rfl rfl ?_
    show Steps p.tables e below (T6.setTop (mkF m 30 #[.val (.int p1), .val (.ref bV), .val (.int (4 : Int32)), .val (.int ((((0 : Int32) + (1 : Int32)) + (1 : Int32)) + (1 : Int32))), .val (.ref wF)] [(.ref wF)])) _
    jvm_step X6.here [X6.here.top, hx, (hb hby d1_30), X6.method', Bd.returns, Value.isRef, FieldType.isReference]
    first | (intro acts; rw [hr _ acts rfl rfl rfl]) | rw [hr _ _ rfl rfl rfl]
    exact Steps.refl _
  · show Q_of_4 Z p1 wV cl wS wL wD wF h0 n0 _ T6.heap _
    rw [e6]
    exact ⟨rfl, N2, Ex2⟩
theorem d1_37 : decode prog_13_method_5_code 37 = .ok (.aconst_null, 1) := by decide +kernel
theorem d1_38 : decode prog_13_method_5_code 38 = .ok (.areturn, 1) := by decide +kernel
def Q_of_0 (Z : State) (p1 : Int32) (wV : Addr) (cl : Cell) (wS : Addr) (wL : Addr) (wD : Addr) (wF : Addr) (h0 : Heap) (n0 : Nat) (v : Option Value) (h : Heap) (L : List Loc) : Prop := v = some .null ∧ Fr n0 L ∧ Ext h0 h
set_option maxRecDepth 65536 in
set_option maxHeartbeats 40000000 in
theorem rm_of_0 (l : Launch) (Z : State) (a0 : Array Value) (hw : ∀ d ∈ tables_1, d.before a0 Z = true) (ws : List Jvm.Cond) (p1 : Int32) (wV : Addr) (cl : Cell) (wS : Addr) (wL : Addr) (wD : Addr) (wF : Addr) (h0 : Heap) (n0 : Nat) (Z0 : n0 ≤ h0.size) (S_V : Sta Z h0 "com/example/ashlar/ashlar/storage/ColumnType" "$VALUES" "[Lcom/example/ashlar/ashlar/storage/ColumnType;" (.ref wV)) (A_V : Arr Z h0 wV cl (.object "com/example/ashlar/ashlar/storage/ColumnType")) (E_V : Exa Z h0 wV "[Lcom/example/ashlar/ashlar/storage/ColumnType;") (F_V : FitC Z cl) (hsz : cl.slots.size = 4) (hat_0 : cl.slots[0]? = some (.ref wS)) (hat_1 : cl.slots[1]? = some (.ref wL)) (hat_2 : cl.slots[2]? = some (.ref wD)) (hat_3 : cl.slots[3]? = some (.ref wF)) (F_wS : Fld Z h0 wS "com/example/ashlar/ashlar/storage/ColumnType" "tag" "B" (.int (1 : Int32))) (F_wL : Fld Z h0 wL "com/example/ashlar/ashlar/storage/ColumnType" "tag" "B" (.int (2 : Int32))) (F_wD : Fld Z h0 wD "com/example/ashlar/ashlar/storage/ColumnType" "tag" "B" (.int (3 : Int32))) (F_wF : Fld Z h0 wF "com/example/ashlar/ashlar/storage/ColumnType" "tag" "B" (.int (4 : Int32))) (hc25 : ¬ ((1 : Int32) = p1)) (hc25_2 : ¬ ((2 : Int32) = p1)) (hc25_3 : ¬ ((3 : Int32) = p1)) (hc25_4 : ¬ ((4 : Int32) = p1)) :
    MetFree l (⟨"com/example/ashlar/ashlar/storage/ColumnType", "ofTag", "(B)Lcom/example/ashlar/ashlar/storage/ColumnType;"⟩ : MethodName) (head1 (Jvm.Cond.code (⟨"com/example/ashlar/ashlar/storage/ColumnType", "ofTag", "(B)Lcom/example/ashlar/ashlar/storage/ColumnType;"⟩ : MethodName) prog_13_method_5_code 5 (some (.object "com/example/ashlar/ashlar/storage/ColumnType")) :: ws) ({ frames := 2, cells := 1, slots := 4, locals := 25 } : Room)) (fun a U => a = #[(.int p1)] ∧ Z.Warmed39 U.vm ∧ U.heap = h0) (fun _ _ _ _ _ => True) (fun _ U o U' => ∃ v L, o = .returned v ∧ Q_of_0 Z p1 wV cl wS wL wD wF h0 n0 v U'.heap L ∧ FrameEnd U o U' L ({ frames := 2, cells := 1, slots := 4, locals := 25 } : Room).cells ({ frames := 2, cells := 1, slots := 4, locals := 25 } : Room).slots) := by
  refine MetFree.of_bodySF (plainFor_of_name pn_1) hisR ?_
  intro p e s m args below meth c s₁ Bd hml0 hP hK
  obtain ⟨rfl, hZ, hh⟩ := hP
  have hx := Bd.exec
  have hby := Bd.bytes
  have hml : c.maxLocals = 5 := hml0
  have hown : s.vm.findClass "com/example/ashlar/ashlar/storage/ColumnType" = some m.cls := findClass_of_methodNamed Bd.named
  have hnm := (name_of_methodNamed Bd.named Bd.method).1
  have X0 : Stand p l e ({ frames := 2, cells := 1, slots := 4, locals := 25 } : Room) s m #[(.int p1)] below meth c s₁ [] 0 0 := Stand.of_body Bd
  have e0 : s₁.heap = h0 := by rw [← hh, Bd.state]; rfl
  have N0 := Fr.nil n0
  have pre0 : ∀ t, Steps p.tables e below (s₁.setTop (mkF m 0 #[.val (.int p1), .unset, .unset, .unset, .unset] [])) t → Steps p.tables e below (s₁.setTop (entryFrame m #[(.int p1)] 5)) t := fun t k => castTop (ef_1 m p1) k
  obtain ⟨_, _, ⟨T2, L2, k2, n2⟩, -, X2, ⟨Lc2, hQ2, l2, y2, z2⟩, st2⟩ := Jvm.LawKit.callS X0 hx (y := (⟨"com/example/ashlar/ashlar/storage/ColumnType", "values", "()[Lcom/example/ashlar/ashlar/storage/ColumnType;"⟩ : MethodName)) hown (mvT hZ (hw _ (List.mem_of_getElem? (i := 4) rfl))) (mvT hZ (hw _ (List.mem_of_getElem? (i := 5) rfl))) (mvT hZ (hw _ (List.mem_of_getElem? (i := 2) rfl))) (mvT hZ (hw _ (List.mem_of_getElem? (i := 6) rfl))) (by decide) (backOf (W := 0) (rm_values l Z a0 hw []  wV cl h0 n0 Z0 S_V A_V E_V F_V hsz) hZ (hw _ (List.mem_of_getElem? (i := 6) rfl)) (hw _ (List.mem_of_getElem? (i := 2) rfl)) (by decide) (by decide)) (g := (mkF m 0 #[.val (.int p1), .unset, .unset, .unset, .unset] [])) rfl (by rw [hml]; rfl) (argsL := []) (rest := []) (lenOf pd_1_1 rfl) rfl (by show 2 * 0 + _ ≤ _; exact Nat.le_of_eq rfl) (hb hby d1_0) (fun _ _ => ⟨rfl, e0, (by decide : 0 + 1 ≤ _), (by decide : 0 + 4 ≤ _)⟩)
  dsimp only [Pt.U, Pt.locs, Pt.cells, Pt.slots] at X2 l2 y2 z2 st2 hQ2
  subst l2 y2 z2
  obtain ⟨bV, rfl, N2q, Ex2, Ar_bV⟩ := hQ2
  have N2 := Fr.app N0 N2q
  have hszc : (cloneOf cl).slots.size = 4 := hsz
  have S_bV : (cloneOf cl).slots.size = (4 : Int32).toNatClampNeg := hsz
  have N_bV : ¬ (4 : Int32) < 0 := by decide
  obtain ⟨T3, X3, e3, st3⟩ := getF X2 hx hZ hown (host := "") (Or.inl (hw _ (List.mem_of_getElem? (i := 23) rfl))) Via.refl rfl (F_wS.ext Ex2) (g := (mkF m 21 #[.val (.int p1), .val (.ref bV), .val (.int (4 : Int32)), .val (.int (0 : Int32)), .val (.ref wS)] [(.ref wS)])) rfl rfl (hb hby d1_21)
  obtain ⟨T4, X4, e4, st4⟩ := getF X3 hx hZ hown (host := "") (Or.inl (hw _ (List.mem_of_getElem? (i := 23) rfl))) Via.refl e3 (F_wL.ext Ex2) (g := (mkF m 21 #[.val (.int p1), .val (.ref bV), .val (.int (4 : Int32)), .val (.int ((0 : Int32) + (1 : Int32))), .val (.ref wL)] [(.ref wL)])) rfl rfl (hb hby d1_21)
  obtain ⟨T5, X5, e5, st5⟩ := getF X4 hx hZ hown (host := "") (Or.inl (hw _ (List.mem_of_getElem? (i := 23) rfl))) Via.refl e4 (F_wD.ext Ex2) (g := (mkF m 21 #[.val (.int p1), .val (.ref bV), .val (.int (4 : Int32)), .val (.int (((0 : Int32) + (1 : Int32)) + (1 : Int32))), .val (.ref wD)] [(.ref wD)])) rfl rfl (hb hby d1_21)
  obtain ⟨T6, X6, e6, st6⟩ := getF X5 hx hZ hown (host := "") (Or.inl (hw _ (List.mem_of_getElem? (i := 23) rfl))) Via.refl e5 (F_wF.ext Ex2) (g := (mkF m 21 #[.val (.int p1), .val (.ref bV), .val (.int (4 : Int32)), .val (.int ((((0 : Int32) + (1 : Int32)) + (1 : Int32)) + (1 : Int32))), .val (.ref wF)] [(.ref wF)])) rfl rfl (hb hby d1_21)
  obtain ⟨fs, hr, hrun, hended, hW, hsame⟩ := X6.leave (v := some .null) (fun h => by rw [Bd.returns] at h; cases h)
  refine ⟨_, _, pre0 _ ?_, hrun, hended, _, _, rfl, ?_, ⟨_, rfl⟩, hW, hsame.mono (by decide) (by decide)⟩
  · show Steps p.tables e below (s₁.setTop (mkF m 0 #[.val (.int p1), .unset, .unset, .unset, .unset] [])) _
    refine st2 _ ?_
    show Steps p.tables e below (T2.setTop (mkF m 3 #[.val (.int p1), .unset, .unset, .unset, .unset] [(.ref bV)])) _
    refine XS.astoreN X2.here hx rfl (hb hby d1_3) rfl rfl (l' := #[.val (.int p1), .val (.ref bV), .unset, .unset, .unset]) rfl ?_
    show Steps p.tables e below (T2.setTop (mkF m 4 #[.val (.int p1), .val (.ref bV), .unset, .unset, .unset] [])) _
    refine XS.aloadN X2.here hx rfl (hb hby d1_4) rfl rfl ?_
    show Steps p.tables e below (T2.setTop (mkF m 5 #[.val (.int p1), .val (.ref bV), .unset, .unset, .unset] [(.ref bV)])) _
    refine X2.arraylength hx (by exact Ar_bV.1) (State.isArrayOf_alike hZ.alike Ar_bV.2.1) (g := (mkF m 5 #[.val (.int p1), .val (.ref bV), .unset, .unset, .unset] [(.ref bV)])) rfl rfl (hb hby d1_5) _ ?_
    rw [len_of S_bV N_bV]
    show Steps p.tables e below (T2.setTop (mkF m 6 #[.val (.int p1), .val (.ref bV), .unset, .unset, .unset] [(.int (4 : Int32))])) _
    refine XS.istoreN X2.here hx rfl (hb hby d1_6) rfl (l' := #[.val (.int p1), .val (.ref bV), .val (.int (4 : Int32)), .unset, .unset]) rfl ?_
    show Steps p.tables e below (T2.setTop (mkF m 7 #[.val (.int p1), .val (.ref bV), .val (.int (4 : Int32)), .unset, .unset] [])) _
    refine XS.iconst X2.here hx rfl (hb hby d1_7) ?_
    show Steps p.tables e below (T2.setTop (mkF m 8 #[.val (.int p1), .val (.ref bV), .val (.int (4 : Int32)), .unset, .unset] [(.int (0 : Int32))])) _
    refine XS.istoreN X2.here hx rfl (hb hby d1_8) rfl (l' := #[.val (.int p1), .val (.ref bV), .val (.int (4 : Int32)), .val (.int (0 : Int32)), .unset]) rfl ?_
    show Steps p.tables e below (T2.setTop (mkF m 9 #[.val (.int p1), .val (.ref bV), .val (.int (4 : Int32)), .val (.int (0 : Int32)), .unset] [])) _
    refine XS.iloadN X2.here hx rfl (hb hby d1_9) rfl ?_
    show Steps p.tables e below (T2.setTop (mkF m 10 #[.val (.int p1), .val (.ref bV), .val (.int (4 : Int32)), .val (.int (0 : Int32)), .unset] [(.int (0 : Int32))])) _
    refine XS.iloadN X2.here hx rfl (hb hby d1_10) rfl ?_
    show Steps p.tables e below (T2.setTop (mkF m 11 #[.val (.int p1), .val (.ref bV), .val (.int (4 : Int32)), .val (.int (0 : Int32)), .unset] [(.int (4 : Int32)), (.int (0 : Int32))])) _
    refine XS.icmpNo X2.here hx rfl (hb hby d1_11) rfl (tlt (by decide : (0 : Int32) < (4 : Int32))).2.1 ?_
    show Steps p.tables e below (T2.setTop (mkF m 14 #[.val (.int p1), .val (.ref bV), .val (.int (4 : Int32)), .val (.int (0 : Int32)), .unset] [])) _
    refine XS.aloadN X2.here hx rfl (hb hby d1_14) rfl rfl ?_
    show Steps p.tables e below (T2.setTop (mkF m 15 #[.val (.int p1), .val (.ref bV), .val (.int (4 : Int32)), .val (.int (0 : Int32)), .unset] [(.ref bV)])) _
    refine XS.iloadN X2.here hx rfl (hb hby d1_15) rfl ?_
    show Steps p.tables e below (T2.setTop (mkF m 16 #[.val (.int p1), .val (.ref bV), .val (.int (4 : Int32)), .val (.int (0 : Int32)), .unset] [(.int (0 : Int32)), (.ref bV)])) _
    refine X2.aaload hx (j := (0 : Int32)) (v := (.ref wS)) (by exact Ar_bV.1) (State.isArrayOf_alike hZ.alike Ar_bV.2.1) rfl Ar_bV.2.2 (by rw [hszc]; decide) (own_at (c := cloneOf cl) (by decide) hat_0) (g := (mkF m 16 #[.val (.int p1), .val (.ref bV), .val (.int (4 : Int32)), .val (.int (0 : Int32)), .unset] [(.int (0 : Int32)), (.ref bV)])) rfl rfl (hb hby d1_16) _ ?_
    show Steps p.tables e below (T2.setTop (mkF m 17 #[.val (.int p1), .val (.ref bV), .val (.int (4 : Int32)), .val (.int (0 : Int32)), .unset] [(.ref wS)])) _
    refine XS.astore X2.here hx rfl (hb hby d1_17) rfl rfl (l' := #[.val (.int p1), .val (.ref bV), .val (.int (4 : Int32)), .val (.int (0 : Int32)), .val (.ref wS)]) rfl ?_
    show Steps p.tables e below (T2.setTop (mkF m 19 #[.val (.int p1), .val (.ref bV), .val (.int (4 : Int32)), .val (.int (0 : Int32)), .val (.ref wS)] [])) _
    refine XS.aload X2.here hx rfl (hb hby d1_19) rfl rfl ?_
    show Steps p.tables e below (T2.setTop (mkF m 21 #[.val (.int p1), .val (.ref bV), .val (.int (4 : Int32)), .val (.int (0 : Int32)), .val (.ref wS)] [(.ref wS)])) _
    refine st3 _ ?_
    show Steps p.tables e below (T3.setTop (mkF m 24 #[.val (.int p1), .val (.ref bV), .val (.int (4 : Int32)), .val (.int (0 : Int32)), .val (.ref wS)] [(.int (1 : Int32))])) _
    refine XS.iloadN X3.here hx rfl (hb hby d1_24) rfl ?_
    show Steps p.tables e below (T3.setTop (mkF m 25 #[.val (.int p1), .val (.ref bV), .val (.int (4 : Int32)), .val (.int (0 : Int32)), .val (.ref wS)] [(.int p1), (.int (1 : Int32))])) _
    refine XS.icmpYes X3.here hx rfl (pc0 := 25) (pc' := 31) rfl (hb hby d1_25) rfl (feq hc25).2 (by decide) (by decide) ?_
    show Steps p.tables e below (T3.setTop (mkF m 31 #[.val (.int p1), .val (.ref bV), .val (.int (4 : Int32)), .val (.int (0 : Int32)), .val (.ref wS)] [])) _
    refine XS.iinc X3.here hx rfl (hb hby d1_31) rfl (l' := #[.val (.int p1), .val (.ref bV), .val (.int (4 : Int32)), .val (.int ((0 : Int32) + (1 : Int32))), .val (.ref wS)]) rfl ?_
    show Steps p.tables e below (T3.setTop (mkF m 34 #[.val (.int p1), .val (.ref bV), .val (.int (4 : Int32)), .val (.int ((0 : Int32) + (1 : Int32))), .val (.ref wS)] [])) _
    refine XS.goto X3.here hx rfl (pc0 := 34) (pc' := 9) rfl (hb hby d1_34) (by decide) (by decide) ?_
    show Steps p.tables e below (T3.setTop (mkF m 9 #[.val (.int p1), .val (.ref bV), .val (.int (4 : Int32)), .val (.int ((0 : Int32) + (1 : Int32))), .val (.ref wS)] [])) _
    refine XS.iloadN X3.here hx rfl (hb hby d1_9) rfl ?_
    show Steps p.tables e below (T3.setTop (mkF m 10 #[.val (.int p1), .val (.ref bV), .val (.int (4 : Int32)), .val (.int ((0 : Int32) + (1 : Int32))), .val (.ref wS)] [(.int ((0 : Int32) + (1 : Int32)))])) _
    refine XS.iloadN X3.here hx rfl (hb hby d1_10) rfl ?_
    show Steps p.tables e below (T3.setTop (mkF m 11 #[.val (.int p1), .val (.ref bV), .val (.int (4 : Int32)), .val (.int ((0 : Int32) + (1 : Int32))), .val (.ref wS)] [(.int (4 : Int32)), (.int ((0 : Int32) + (1 : Int32)))])) _
    refine XS.icmpNo X3.here hx rfl (hb hby d1_11) rfl (tlt (by decide : ((0 : Int32) + (1 : Int32)) < (4 : Int32))).2.1 ?_
    show Steps p.tables e below (T3.setTop (mkF m 14 #[.val (.int p1), .val (.ref bV), .val (.int (4 : Int32)), .val (.int ((0 : Int32) + (1 : Int32))), .val (.ref wS)] [])) _
    refine XS.aloadN X3.here hx rfl (hb hby d1_14) rfl rfl ?_
    show Steps p.tables e below (T3.setTop (mkF m 15 #[.val (.int p1), .val (.ref bV), .val (.int (4 : Int32)), .val (.int ((0 : Int32) + (1 : Int32))), .val (.ref wS)] [(.ref bV)])) _
    refine XS.iloadN X3.here hx rfl (hb hby d1_15) rfl ?_
    show Steps p.tables e below (T3.setTop (mkF m 16 #[.val (.int p1), .val (.ref bV), .val (.int (4 : Int32)), .val (.int ((0 : Int32) + (1 : Int32))), .val (.ref wS)] [(.int ((0 : Int32) + (1 : Int32))), (.ref bV)])) _
    refine X3.aaload hx (j := ((0 : Int32) + (1 : Int32))) (v := (.ref wL)) (by rw [e3]; exact Ar_bV.1) (State.isArrayOf_alike hZ.alike Ar_bV.2.1) rfl Ar_bV.2.2 (by rw [hszc]; decide) (own_at (c := cloneOf cl) (by decide) hat_1) (g := (mkF m 16 #[.val (.int p1), .val (.ref bV), .val (.int (4 : Int32)), .val (.int ((0 : Int32) + (1 : Int32))), .val (.ref wS)] [(.int ((0 : Int32) + (1 : Int32))), (.ref bV)])) rfl rfl (hb hby d1_16) _ ?_
    show Steps p.tables e below (T3.setTop (mkF m 17 #[.val (.int p1), .val (.ref bV), .val (.int (4 : Int32)), .val (.int ((0 : Int32) + (1 : Int32))), .val (.ref wS)] [(.ref wL)])) _
    refine XS.astore X3.here hx rfl (hb hby d1_17) rfl rfl (l' := #[.val (.int p1), .val (.ref bV), .val (.int (4 : Int32)), .val (.int ((0 : Int32) + (1 : Int32))), .val (.ref wL)]) rfl ?_
    show Steps p.tables e below (T3.setTop (mkF m 19 #[.val (.int p1), .val (.ref bV), .val (.int (4 : Int32)), .val (.int ((0 : Int32) + (1 : Int32))), .val (.ref wL)] [])) _
    refine XS.aload X3.here hx rfl (hb hby d1_19) rfl rfl ?_
    show Steps p.tables e below (T3.setTop (mkF m 21 #[.val (.int p1), .val (.ref bV), .val (.int (4 : Int32)), .val (.int ((0 : Int32) + (1 : Int32))), .val (.ref wL)] [(.ref wL)])) _
    refine st4 _ ?_
    show Steps p.tables e below (T4.setTop (mkF m 24 #[.val (.int p1), .val (.ref bV), .val (.int (4 : Int32)), .val (.int ((0 : Int32) + (1 : Int32))), .val (.ref wL)] [(.int (2 : Int32))])) _
    refine XS.iloadN X4.here hx rfl (hb hby d1_24) rfl ?_
    show Steps p.tables e below (T4.setTop (mkF m 25 #[.val (.int p1), .val (.ref bV), .val (.int (4 : Int32)), .val (.int ((0 : Int32) + (1 : Int32))), .val (.ref wL)] [(.int p1), (.int (2 : Int32))])) _
    refine XS.icmpYes X4.here hx rfl (pc0 := 25) (pc' := 31) rfl (hb hby d1_25) rfl (feq hc25_2).2 (by decide) (by decide) ?_
    show Steps p.tables e below (T4.setTop (mkF m 31 #[.val (.int p1), .val (.ref bV), .val (.int (4 : Int32)), .val (.int ((0 : Int32) + (1 : Int32))), .val (.ref wL)] [])) _
    refine XS.iinc X4.here hx rfl (hb hby d1_31) rfl (l' := #[.val (.int p1), .val (.ref bV), .val (.int (4 : Int32)), .val (.int (((0 : Int32) + (1 : Int32)) + (1 : Int32))), .val (.ref wL)]) rfl ?_
    show Steps p.tables e below (T4.setTop (mkF m 34 #[.val (.int p1), .val (.ref bV), .val (.int (4 : Int32)), .val (.int (((0 : Int32) + (1 : Int32)) + (1 : Int32))), .val (.ref wL)] [])) _
    refine XS.goto X4.here hx rfl (pc0 := 34) (pc' := 9) rfl (hb hby d1_34) (by decide) (by decide) ?_
    show Steps p.tables e below (T4.setTop (mkF m 9 #[.val (.int p1), .val (.ref bV), .val (.int (4 : Int32)), .val (.int (((0 : Int32) + (1 : Int32)) + (1 : Int32))), .val (.ref wL)] [])) _
    refine XS.iloadN X4.here hx rfl (hb hby d1_9) rfl ?_
    show Steps p.tables e below (T4.setTop (mkF m 10 #[.val (.int p1), .val (.ref bV), .val (.int (4 : Int32)), .val (.int (((0 : Int32) + (1 : Int32)) + (1 : Int32))), .val (.ref wL)] [(.int (((0 : Int32) + (1 : Int32)) + (1 : Int32)))])) _
    refine XS.iloadN X4.here hx rfl (hb hby d1_10) rfl ?_
    show Steps p.tables e below (T4.setTop (mkF m 11 #[.val (.int p1), .val (.ref bV), .val (.int (4 : Int32)), .val (.int (((0 : Int32) + (1 : Int32)) + (1 : Int32))), .val (.ref wL)] [(.int (4 : Int32)), (.int (((0 : Int32) + (1 : Int32)) + (1 : Int32)))])) _
    refine XS.icmpNo X4.here hx rfl (hb hby d1_11) rfl (tlt (by decide : (((0 : Int32) + (1 : Int32)) + (1 : Int32)) < (4 : Int32))).2.1 ?_
    show Steps p.tables e below (T4.setTop (mkF m 14 #[.val (.int p1), .val (.ref bV), .val (.int (4 : Int32)), .val (.int (((0 : Int32) + (1 : Int32)) + (1 : Int32))), .val (.ref wL)] [])) _
    refine XS.aloadN X4.here hx rfl (hb hby d1_14) rfl rfl ?_
    show Steps p.tables e below (T4.setTop (mkF m 15 #[.val (.int p1), .val (.ref bV), .val (.int (4 : Int32)), .val (.int (((0 : Int32) + (1 : Int32)) + (1 : Int32))), .val (.ref wL)] [(.ref bV)])) _
    refine XS.iloadN X4.here hx rfl (hb hby d1_15) rfl ?_
    show Steps p.tables e below (T4.setTop (mkF m 16 #[.val (.int p1), .val (.ref bV), .val (.int (4 : Int32)), .val (.int (((0 : Int32) + (1 : Int32)) + (1 : Int32))), .val (.ref wL)] [(.int (((0 : Int32) + (1 : Int32)) + (1 : Int32))), (.ref bV)])) _
    refine X4.aaload hx (j := (((0 : Int32) + (1 : Int32)) + (1 : Int32))) (v := (.ref wD)) (by rw [e4]; exact Ar_bV.1) (State.isArrayOf_alike hZ.alike Ar_bV.2.1) rfl Ar_bV.2.2 (by rw [hszc]; decide) (own_at (c := cloneOf cl) (by decide) hat_2) (g := (mkF m 16 #[.val (.int p1), .val (.ref bV), .val (.int (4 : Int32)), .val (.int (((0 : Int32) + (1 : Int32)) + (1 : Int32))), .val (.ref wL)] [(.int (((0 : Int32) + (1 : Int32)) + (1 : Int32))), (.ref bV)])) rfl rfl (hb hby d1_16) _ ?_
    show Steps p.tables e below (T4.setTop (mkF m 17 #[.val (.int p1), .val (.ref bV), .val (.int (4 : Int32)), .val (.int (((0 : Int32) + (1 : Int32)) + (1 : Int32))), .val (.ref wL)] [(.ref wD)])) _
    refine XS.astore X4.here hx rfl (hb hby d1_17) rfl rfl (l' := #[.val (.int p1), .val (.ref bV), .val (.int (4 : Int32)), .val (.int (((0 : Int32) + (1 : Int32)) + (1 : Int32))), .val (.ref wD)]) rfl ?_
    show Steps p.tables e below (T4.setTop (mkF m 19 #[.val (.int p1), .val (.ref bV), .val (.int (4 : Int32)), .val (.int (((0 : Int32) + (1 : Int32)) + (1 : Int32))), .val (.ref wD)] [])) _
    refine XS.aload X4.here hx rfl (hb hby d1_19) rfl rfl ?_
    show Steps p.tables e below (T4.setTop (mkF m 21 #[.val (.int p1), .val (.ref bV), .val (.int (4 : Int32)), .val (.int (((0 : Int32) + (1 : Int32)) + (1 : Int32))), .val (.ref wD)] [(.ref wD)])) _
    refine st5 _ ?_
    show Steps p.tables e below (T5.setTop (mkF m 24 #[.val (.int p1), .val (.ref bV), .val (.int (4 : Int32)), .val (.int (((0 : Int32) + (1 : Int32)) + (1 : Int32))), .val (.ref wD)] [(.int (3 : Int32))])) _
    refine XS.iloadN X5.here hx rfl (hb hby d1_24) rfl ?_
    show Steps p.tables e below (T5.setTop (mkF m 25 #[.val (.int p1), .val (.ref bV), .val (.int (4 : Int32)), .val (.int (((0 : Int32) + (1 : Int32)) + (1 : Int32))), .val (.ref wD)] [(.int p1), (.int (3 : Int32))])) _
    refine XS.icmpYes X5.here hx rfl (pc0 := 25) (pc' := 31) rfl (hb hby d1_25) rfl (feq hc25_3).2 (by decide) (by decide) ?_
    show Steps p.tables e below (T5.setTop (mkF m 31 #[.val (.int p1), .val (.ref bV), .val (.int (4 : Int32)), .val (.int (((0 : Int32) + (1 : Int32)) + (1 : Int32))), .val (.ref wD)] [])) _
    refine XS.iinc X5.here hx rfl (hb hby d1_31) rfl (l' := #[.val (.int p1), .val (.ref bV), .val (.int (4 : Int32)), .val (.int ((((0 : Int32) + (1 : Int32)) + (1 : Int32)) + (1 : Int32))), .val (.ref wD)]) rfl ?_
    show Steps p.tables e below (T5.setTop (mkF m 34 #[.val (.int p1), .val (.ref bV), .val (.int (4 : Int32)), .val (.int ((((0 : Int32) + (1 : Int32)) + (1 : Int32)) + (1 : Int32))), .val (.ref wD)] [])) _
    refine XS.goto X5.here hx rfl (pc0 := 34) (pc' := 9) rfl (hb hby d1_34) (by decide) (by decide) ?_
    show Steps p.tables e below (T5.setTop (mkF m 9 #[.val (.int p1), .val (.ref bV), .val (.int (4 : Int32)), .val (.int ((((0 : Int32) + (1 : Int32)) + (1 : Int32)) + (1 : Int32))), .val (.ref wD)] [])) _
    refine XS.iloadN X5.here hx rfl (hb hby d1_9) rfl ?_
    show Steps p.tables e below (T5.setTop (mkF m 10 #[.val (.int p1), .val (.ref bV), .val (.int (4 : Int32)), .val (.int ((((0 : Int32) + (1 : Int32)) + (1 : Int32)) + (1 : Int32))), .val (.ref wD)] [(.int ((((0 : Int32) + (1 : Int32)) + (1 : Int32)) + (1 : Int32)))])) _
    refine XS.iloadN X5.here hx rfl (hb hby d1_10) rfl ?_
    show Steps p.tables e below (T5.setTop (mkF m 11 #[.val (.int p1), .val (.ref bV), .val (.int (4 : Int32)), .val (.int ((((0 : Int32) + (1 : Int32)) + (1 : Int32)) + (1 : Int32))), .val (.ref wD)] [(.int (4 : Int32)), (.int ((((0 : Int32) + (1 : Int32)) + (1 : Int32)) + (1 : Int32)))])) _
    refine XS.icmpNo X5.here hx rfl (hb hby d1_11) rfl (tlt (by decide : ((((0 : Int32) + (1 : Int32)) + (1 : Int32)) + (1 : Int32)) < (4 : Int32))).2.1 ?_
    show Steps p.tables e below (T5.setTop (mkF m 14 #[.val (.int p1), .val (.ref bV), .val (.int (4 : Int32)), .val (.int ((((0 : Int32) + (1 : Int32)) + (1 : Int32)) + (1 : Int32))), .val (.ref wD)] [])) _
    refine XS.aloadN X5.here hx rfl (hb hby d1_14) rfl rfl ?_
    show Steps p.tables e below (T5.setTop (mkF m 15 #[.val (.int p1), .val (.ref bV), .val (.int (4 : Int32)), .val (.int ((((0 : Int32) + (1 : Int32)) + (1 : Int32)) + (1 : Int32))), .val (.ref wD)] [(.ref bV)])) _
    refine XS.iloadN X5.here hx rfl (hb hby d1_15) rfl ?_
    show Steps p.tables e below (T5.setTop (mkF m 16 #[.val (.int p1), .val (.ref bV), .val (.int (4 : Int32)), .val (.int ((((0 : Int32) + (1 : Int32)) + (1 : Int32)) + (1 : Int32))), .val (.ref wD)] [(.int ((((0 : Int32) + (1 : Int32)) + (1 : Int32)) + (1 : Int32))), (.ref bV)])) _
    refine X5.aaload hx (j := ((((0 : Int32) + (1 : Int32)) + (1 : Int32)) + (1 : Int32))) (v := (.ref wF)) (by rw [e5]; exact Ar_bV.1) (State.isArrayOf_alike hZ.alike Ar_bV.2.1) rfl Ar_bV.2.2 (by rw [hszc]; decide) (own_at (c := cloneOf cl) (by decide) hat_3) (g := (mkF m 16 #[.val (.int p1), .val (.ref bV), .val (.int (4 : Int32)), .val (.int ((((0 : Int32) + (1 : Int32)) + (1 : Int32)) + (1 : Int32))), .val (.ref wD)] [(.int ((((0 : Int32) + (1 : Int32)) + (1 : Int32)) + (1 : Int32))), (.ref bV)])) rfl rfl (hb hby d1_16) _ ?_
    show Steps p.tables e below (T5.setTop (mkF m 17 #[.val (.int p1), .val (.ref bV), .val (.int (4 : Int32)), .val (.int ((((0 : Int32) + (1 : Int32)) + (1 : Int32)) + (1 : Int32))), .val (.ref wD)] [(.ref wF)])) _
    refine XS.astore X5.here hx rfl (hb hby d1_17) rfl rfl (l' := #[.val (.int p1), .val (.ref bV), .val (.int (4 : Int32)), .val (.int ((((0 : Int32) + (1 : Int32)) + (1 : Int32)) + (1 : Int32))), .val (.ref wF)]) rfl ?_
    show Steps p.tables e below (T5.setTop (mkF m 19 #[.val (.int p1), .val (.ref bV), .val (.int (4 : Int32)), .val (.int ((((0 : Int32) + (1 : Int32)) + (1 : Int32)) + (1 : Int32))), .val (.ref wF)] [])) _
    refine XS.aload X5.here hx rfl (hb hby d1_19) rfl rfl ?_
    show Steps p.tables e below (T5.setTop (mkF m 21 #[.val (.int p1), .val (.ref bV), .val (.int (4 : Int32)), .val (.int ((((0 : Int32) + (1 : Int32)) + (1 : Int32)) + (1 : Int32))), .val (.ref wF)] [(.ref wF)])) _
    refine st6 _ ?_
    show Steps p.tables e below (T6.setTop (mkF m 24 #[.val (.int p1), .val (.ref bV), .val (.int (4 : Int32)), .val (.int ((((0 : Int32) + (1 : Int32)) + (1 : Int32)) + (1 : Int32))), .val (.ref wF)] [(.int (4 : Int32))])) _
    refine XS.iloadN X6.here hx rfl (hb hby d1_24) rfl ?_
    show Steps p.tables e below (T6.setTop (mkF m 25 #[.val (.int p1), .val (.ref bV), .val (.int (4 : Int32)), .val (.int ((((0 : Int32) + (1 : Int32)) + (1 : Int32)) + (1 : Int32))), .val (.ref wF)] [(.int p1), (.int (4 : Int32))])) _
    refine XS.icmpYes X6.here hx rfl (pc0 := 25) (pc' := 31) rfl (hb hby d1_25) rfl (feq hc25_4).2 (by decide) (by decide) ?_
    show Steps p.tables e below (T6.setTop (mkF m 31 #[.val (.int p1), .val (.ref bV), .val (.int (4 : Int32)), .val (.int ((((0 : Int32) + (1 : Int32)) + (1 : Int32)) + (1 : Int32))), .val (.ref wF)] [])) _
    refine XS.iinc X6.here hx rfl (hb hby d1_31) rfl (l' := #[.val (.int p1), .val (.ref bV), .val (.int (4 : Int32)), .val (.int (((((0 : Int32) + (1 : Int32)) + (1 : Int32)) + (1 : Int32)) + (1 : Int32))), .val (.ref wF)]) rfl ?_
    show Steps p.tables e below (T6.setTop (mkF m 34 #[.val (.int p1), .val (.ref bV), .val (.int (4 : Int32)), .val (.int (((((0 : Int32) + (1 : Int32)) + (1 : Int32)) + (1 : Int32)) + (1 : Int32))), .val (.ref wF)] [])) _
    refine XS.goto X6.here hx rfl (pc0 := 34) (pc' := 9) rfl (hb hby d1_34) (by decide) (by decide) ?_
    show Steps p.tables e below (T6.setTop (mkF m 9 #[.val (.int p1), .val (.ref bV), .val (.int (4 : Int32)), .val (.int (((((0 : Int32) + (1 : Int32)) + (1 : Int32)) + (1 : Int32)) + (1 : Int32))), .val (.ref wF)] [])) _
    refine XS.iloadN X6.here hx rfl (hb hby d1_9) rfl ?_
    show Steps p.tables e below (T6.setTop (mkF m 10 #[.val (.int p1), .val (.ref bV), .val (.int (4 : Int32)), .val (.int (((((0 : Int32) + (1 : Int32)) + (1 : Int32)) + (1 : Int32)) + (1 : Int32))), .val (.ref wF)] [(.int (((((0 : Int32) + (1 : Int32)) + (1 : Int32)) + (1 : Int32)) + (1 : Int32)))])) _
    refine XS.iloadN X6.here hx rfl (hb hby d1_10) rfl ?_
    show Steps p.tables e below (T6.setTop (mkF m 11 #[.val (.int p1), .val (.ref bV), .val (.int (4 : Int32)), .val (.int (((((0 : Int32) + (1 : Int32)) + (1 : Int32)) + (1 : Int32)) + (1 : Int32))), .val (.ref wF)] [(.int (4 : Int32)), (.int (((((0 : Int32) + (1 : Int32)) + (1 : Int32)) + (1 : Int32)) + (1 : Int32)))])) _
    refine XS.icmpYes X6.here hx rfl (pc0 := 11) (pc' := 37) rfl (hb hby d1_11) rfl (flt (by decide : ¬ ((((((0 : Int32) + (1 : Int32)) + (1 : Int32)) + (1 : Int32)) + (1 : Int32)) < (4 : Int32)))).2.1 (by decide) (by decide) ?_
    show Steps p.tables e below (T6.setTop (mkF m 37 #[.val (.int p1), .val (.ref bV), .val (.int (4 : Int32)), .val (.int (((((0 : Int32) + (1 : Int32)) + (1 : Int32)) + (1 : Int32)) + (1 : Int32))), .val (.ref wF)] [])) _
    refine XS.aconstNull X6.here hx rfl (hb hby d1_37) ?_
    show Steps p.tables e below (T6.setTop (mkF m 38 #[.val (.int p1), .val (.ref bV), .val (.int (4 : Int32)), .val (.int (((((0 : Int32) + (1 : Int32)) + (1 : Int32)) + (1 : Int32)) + (1 : Int32))), .val (.ref wF)] [.null])) _
    jvm_step X6.here [X6.here.top, hx, (hb hby d1_38), X6.method', Bd.returns, Value.isRef, FieldType.isReference]
    first | (intro acts; rw [hr _ acts rfl rfl rfl]) | rw [hr _ _ rfl rfl rfl]
    exact Steps.refl _
  · show Q_of_0 Z p1 wV cl wS wL wD wF h0 n0 _ T6.heap _
    rw [e6]
    exact ⟨rfl, N2, Ex2⟩
theorem d3_0 : decode method_2_code 0 = .ok (.iload_n 0, 1) := by decide +kernel
theorem d3_1 : decode method_2_code 1 = .ok (.iconst 1, 1) := by decide +kernel
theorem d3_2 : decode method_2_code 2 = .ok (.if_icmp .ne 7, 3) := by decide +kernel
theorem d3_5 : decode method_2_code 5 = .ok (.getstatic 7, 3) := by decide +kernel
theorem d3_8 : decode method_2_code 8 = .ok (.areturn, 1) := by decide +kernel
theorem pn_3 : plainName "com/example/ashlar/ashlar/storage/ColumnTypeOfTagPinLaw" = true := by first | (simp [plainName, overriddenIn]; done) | decide +kernel
theorem ef_3 (m : MethodId) (x0 : Int32) : entryFrame m #[(.int x0)] 1 = mkF m 0 #[.val (.int x0)] [] := by first | (simp [entryFrame, mkF, argsToLocals, Value.category]; done) | rfl
def Q_ex_1 (Z : State) (p1 : Int32) (w2 : Addr) (h0 : Heap) (n0 : Nat) (v : Option Value) (h : Heap) (L : List Loc) : Prop := v = some (.ref w2) ∧ Fr n0 L ∧ h = h0
set_option maxRecDepth 65536 in
set_option maxHeartbeats 40000000 in
theorem rm_ex_1 (l : Launch) (Z : State) (a0 : Array Value) (hw : ∀ d ∈ tables_1, d.before a0 Z = true) (ws : List Jvm.Cond) (p1 : Int32) (w2 : Addr) (h0 : Heap) (n0 : Nat) (Z0 : n0 ≤ h0.size) (S_STRING : Sta Z h0 "com/example/ashlar/ashlar/storage/ColumnType" "STRING" "Lcom/example/ashlar/ashlar/storage/ColumnType;" (.ref w2)) (hc2 : p1 = (1 : Int32)) :
    MetFree l (⟨"com/example/ashlar/ashlar/storage/ColumnTypeOfTagPinLaw", "expected", "(B)Lcom/example/ashlar/ashlar/storage/ColumnType;"⟩ : MethodName) (head1 (Jvm.Cond.code (⟨"com/example/ashlar/ashlar/storage/ColumnTypeOfTagPinLaw", "expected", "(B)Lcom/example/ashlar/ashlar/storage/ColumnType;"⟩ : MethodName) method_2_code 1 (some (.object "com/example/ashlar/ashlar/storage/ColumnType")) :: ws) ({ frames := 0, cells := 0, slots := 0, locals := 0 } : Room)) (fun a U => a = #[(.int p1)] ∧ Z.Warmed39 U.vm ∧ U.heap = h0) (fun _ _ _ _ _ => True) (fun _ U o U' => ∃ v L, o = .returned v ∧ Q_ex_1 Z p1 w2 h0 n0 v U'.heap L ∧ FrameEnd U o U' L ({ frames := 0, cells := 0, slots := 0, locals := 0 } : Room).cells ({ frames := 0, cells := 0, slots := 0, locals := 0 } : Room).slots) := by
  refine MetFree.of_bodySF (plainFor_of_name pn_3) hisR ?_
  intro p e s m args below meth c s₁ Bd hml0 hP hK
  obtain ⟨rfl, hZ, hh⟩ := hP
  have hx := Bd.exec
  have hby := Bd.bytes
  have hml : c.maxLocals = 1 := hml0
  have hown : s.vm.findClass "com/example/ashlar/ashlar/storage/ColumnTypeOfTagPinLaw" = some m.cls := findClass_of_methodNamed Bd.named
  have hnm := (name_of_methodNamed Bd.named Bd.method).1
  have X0 : Stand p l e ({ frames := 0, cells := 0, slots := 0, locals := 0 } : Room) s m #[(.int p1)] below meth c s₁ [] 0 0 := Stand.of_body Bd
  have e0 : s₁.heap = h0 := by rw [← hh, Bd.state]; rfl
  have N0 := Fr.nil n0
  have pre0 : ∀ t, Steps p.tables e below (s₁.setTop (mkF m 0 #[.val (.int p1)] [])) t → Steps p.tables e below (s₁.setTop (entryFrame m #[(.int p1)] 1)) t := fun t k => castTop (ef_3 m p1) k
  obtain ⟨T3, X3, e3, st3⟩ := getS2 X0 hx hZ hown (host := "") (Or.inl (hw _ (List.mem_of_getElem? (i := 32) rfl))) Via.refl e0 S_STRING (g := (mkF m 5 #[.val (.int p1)] [])) rfl (hb hby d3_5)
  obtain ⟨fs, hr, hrun, hended, hW, hsame⟩ := X3.leave (v := some (.ref w2)) (fun h => by rw [Bd.returns] at h; cases h)
  refine ⟨_, _, pre0 _ ?_, hrun, hended, _, _, rfl, ?_, ⟨_, rfl⟩, hW, hsame.mono (by decide) (by decide)⟩
  · show Steps p.tables e below (s₁.setTop (mkF m 0 #[.val (.int p1)] [])) _
    refine XS.iloadN X0.here hx rfl (hb hby d3_0) rfl ?_
    show Steps p.tables e below (s₁.setTop (mkF m 1 #[.val (.int p1)] [(.int p1)])) _
    refine XS.iconst X0.here hx rfl (hb hby d3_1) ?_
    show Steps p.tables e below (s₁.setTop (mkF m 2 #[.val (.int p1)] [(.int (1 : Int32)), (.int p1)])) _
    refine XS.icmpNo X0.here hx rfl (hb hby d3_2) rfl (teq hc2).2 ?_
    show Steps p.tables e below (s₁.setTop (mkF m 5 #[.val (.int p1)] [])) _
    refine st3 _ ?_
    show Steps p.tables e below (T3.setTop (mkF m 8 #[.val (.int p1)] [(.ref w2)])) _
    jvm_step X3.here [X3.here.top, hx, (hb hby d3_8), X3.method', Bd.returns, Value.isRef, FieldType.isReference]
    first | (intro acts; rw [hr _ acts rfl rfl rfl]) | rw [hr _ _ rfl rfl rfl]
    exact Steps.refl _
  · show Q_ex_1 Z p1 w2 h0 n0 _ T3.heap _
    rw [e3]
    exact ⟨rfl, N0, rfl⟩
theorem d3_9 : decode method_2_code 9 = .ok (.iload_n 0, 1) := by decide +kernel
theorem d3_10 : decode method_2_code 10 = .ok (.iconst 2, 1) := by decide +kernel
theorem d3_11 : decode method_2_code 11 = .ok (.if_icmp .ne 7, 3) := by decide +kernel
theorem d3_14 : decode method_2_code 14 = .ok (.getstatic 13, 3) := by decide +kernel
theorem d3_17 : decode method_2_code 17 = .ok (.areturn, 1) := by decide +kernel
def Q_ex_2 (Z : State) (p1 : Int32) (w2 : Addr) (h0 : Heap) (n0 : Nat) (v : Option Value) (h : Heap) (L : List Loc) : Prop := v = some (.ref w2) ∧ Fr n0 L ∧ h = h0
set_option maxRecDepth 65536 in
set_option maxHeartbeats 40000000 in
theorem rm_ex_2 (l : Launch) (Z : State) (a0 : Array Value) (hw : ∀ d ∈ tables_1, d.before a0 Z = true) (ws : List Jvm.Cond) (p1 : Int32) (w2 : Addr) (h0 : Heap) (n0 : Nat) (Z0 : n0 ≤ h0.size) (S_LONG : Sta Z h0 "com/example/ashlar/ashlar/storage/ColumnType" "LONG" "Lcom/example/ashlar/ashlar/storage/ColumnType;" (.ref w2)) (hc2 : ¬ (p1 = (1 : Int32))) (hc11 : p1 = (2 : Int32)) :
    MetFree l (⟨"com/example/ashlar/ashlar/storage/ColumnTypeOfTagPinLaw", "expected", "(B)Lcom/example/ashlar/ashlar/storage/ColumnType;"⟩ : MethodName) (head1 (Jvm.Cond.code (⟨"com/example/ashlar/ashlar/storage/ColumnTypeOfTagPinLaw", "expected", "(B)Lcom/example/ashlar/ashlar/storage/ColumnType;"⟩ : MethodName) method_2_code 1 (some (.object "com/example/ashlar/ashlar/storage/ColumnType")) :: ws) ({ frames := 0, cells := 0, slots := 0, locals := 0 } : Room)) (fun a U => a = #[(.int p1)] ∧ Z.Warmed39 U.vm ∧ U.heap = h0) (fun _ _ _ _ _ => True) (fun _ U o U' => ∃ v L, o = .returned v ∧ Q_ex_2 Z p1 w2 h0 n0 v U'.heap L ∧ FrameEnd U o U' L ({ frames := 0, cells := 0, slots := 0, locals := 0 } : Room).cells ({ frames := 0, cells := 0, slots := 0, locals := 0 } : Room).slots) := by
  refine MetFree.of_bodySF (plainFor_of_name pn_3) hisR ?_
  intro p e s m args below meth c s₁ Bd hml0 hP hK
  obtain ⟨rfl, hZ, hh⟩ := hP
  have hx := Bd.exec
  have hby := Bd.bytes
  have hml : c.maxLocals = 1 := hml0
  have hown : s.vm.findClass "com/example/ashlar/ashlar/storage/ColumnTypeOfTagPinLaw" = some m.cls := findClass_of_methodNamed Bd.named
  have hnm := (name_of_methodNamed Bd.named Bd.method).1
  have X0 : Stand p l e ({ frames := 0, cells := 0, slots := 0, locals := 0 } : Room) s m #[(.int p1)] below meth c s₁ [] 0 0 := Stand.of_body Bd
  have e0 : s₁.heap = h0 := by rw [← hh, Bd.state]; rfl
  have N0 := Fr.nil n0
  have pre0 : ∀ t, Steps p.tables e below (s₁.setTop (mkF m 0 #[.val (.int p1)] [])) t → Steps p.tables e below (s₁.setTop (entryFrame m #[(.int p1)] 1)) t := fun t k => castTop (ef_3 m p1) k
  obtain ⟨T3, X3, e3, st3⟩ := getS2 X0 hx hZ hown (host := "") (Or.inl (hw _ (List.mem_of_getElem? (i := 31) rfl))) Via.refl e0 S_LONG (g := (mkF m 14 #[.val (.int p1)] [])) rfl (hb hby d3_14)
  obtain ⟨fs, hr, hrun, hended, hW, hsame⟩ := X3.leave (v := some (.ref w2)) (fun h => by rw [Bd.returns] at h; cases h)
  refine ⟨_, _, pre0 _ ?_, hrun, hended, _, _, rfl, ?_, ⟨_, rfl⟩, hW, hsame.mono (by decide) (by decide)⟩
  · show Steps p.tables e below (s₁.setTop (mkF m 0 #[.val (.int p1)] [])) _
    refine XS.iloadN X0.here hx rfl (hb hby d3_0) rfl ?_
    show Steps p.tables e below (s₁.setTop (mkF m 1 #[.val (.int p1)] [(.int p1)])) _
    refine XS.iconst X0.here hx rfl (hb hby d3_1) ?_
    show Steps p.tables e below (s₁.setTop (mkF m 2 #[.val (.int p1)] [(.int (1 : Int32)), (.int p1)])) _
    refine XS.icmpYes X0.here hx rfl (pc0 := 2) (pc' := 9) rfl (hb hby d3_2) rfl (feq hc2).2 (by decide) (by decide) ?_
    show Steps p.tables e below (s₁.setTop (mkF m 9 #[.val (.int p1)] [])) _
    refine XS.iloadN X0.here hx rfl (hb hby d3_9) rfl ?_
    show Steps p.tables e below (s₁.setTop (mkF m 10 #[.val (.int p1)] [(.int p1)])) _
    refine XS.iconst X0.here hx rfl (hb hby d3_10) ?_
    show Steps p.tables e below (s₁.setTop (mkF m 11 #[.val (.int p1)] [(.int (2 : Int32)), (.int p1)])) _
    refine XS.icmpNo X0.here hx rfl (hb hby d3_11) rfl (teq hc11).2 ?_
    show Steps p.tables e below (s₁.setTop (mkF m 14 #[.val (.int p1)] [])) _
    refine st3 _ ?_
    show Steps p.tables e below (T3.setTop (mkF m 17 #[.val (.int p1)] [(.ref w2)])) _
    jvm_step X3.here [X3.here.top, hx, (hb hby d3_17), X3.method', Bd.returns, Value.isRef, FieldType.isReference]
    first | (intro acts; rw [hr _ acts rfl rfl rfl]) | rw [hr _ _ rfl rfl rfl]
    exact Steps.refl _
  · show Q_ex_2 Z p1 w2 h0 n0 _ T3.heap _
    rw [e3]
    exact ⟨rfl, N0, rfl⟩
theorem d3_18 : decode method_2_code 18 = .ok (.iload_n 0, 1) := by decide +kernel
theorem d3_19 : decode method_2_code 19 = .ok (.iconst 3, 1) := by decide +kernel
theorem d3_20 : decode method_2_code 20 = .ok (.if_icmp .ne 7, 3) := by decide +kernel
theorem d3_23 : decode method_2_code 23 = .ok (.getstatic 16, 3) := by decide +kernel
theorem d3_26 : decode method_2_code 26 = .ok (.areturn, 1) := by decide +kernel
def Q_ex_3 (Z : State) (p1 : Int32) (w2 : Addr) (h0 : Heap) (n0 : Nat) (v : Option Value) (h : Heap) (L : List Loc) : Prop := v = some (.ref w2) ∧ Fr n0 L ∧ h = h0
set_option maxRecDepth 65536 in
set_option maxHeartbeats 40000000 in
theorem rm_ex_3 (l : Launch) (Z : State) (a0 : Array Value) (hw : ∀ d ∈ tables_1, d.before a0 Z = true) (ws : List Jvm.Cond) (p1 : Int32) (w2 : Addr) (h0 : Heap) (n0 : Nat) (Z0 : n0 ≤ h0.size) (S_DOUBLE : Sta Z h0 "com/example/ashlar/ashlar/storage/ColumnType" "DOUBLE" "Lcom/example/ashlar/ashlar/storage/ColumnType;" (.ref w2)) (hc2 : ¬ (p1 = (1 : Int32))) (hc11 : ¬ (p1 = (2 : Int32))) (hc20 : p1 = (3 : Int32)) :
    MetFree l (⟨"com/example/ashlar/ashlar/storage/ColumnTypeOfTagPinLaw", "expected", "(B)Lcom/example/ashlar/ashlar/storage/ColumnType;"⟩ : MethodName) (head1 (Jvm.Cond.code (⟨"com/example/ashlar/ashlar/storage/ColumnTypeOfTagPinLaw", "expected", "(B)Lcom/example/ashlar/ashlar/storage/ColumnType;"⟩ : MethodName) method_2_code 1 (some (.object "com/example/ashlar/ashlar/storage/ColumnType")) :: ws) ({ frames := 0, cells := 0, slots := 0, locals := 0 } : Room)) (fun a U => a = #[(.int p1)] ∧ Z.Warmed39 U.vm ∧ U.heap = h0) (fun _ _ _ _ _ => True) (fun _ U o U' => ∃ v L, o = .returned v ∧ Q_ex_3 Z p1 w2 h0 n0 v U'.heap L ∧ FrameEnd U o U' L ({ frames := 0, cells := 0, slots := 0, locals := 0 } : Room).cells ({ frames := 0, cells := 0, slots := 0, locals := 0 } : Room).slots) := by
  refine MetFree.of_bodySF (plainFor_of_name pn_3) hisR ?_
  intro p e s m args below meth c s₁ Bd hml0 hP hK
  obtain ⟨rfl, hZ, hh⟩ := hP
  have hx := Bd.exec
  have hby := Bd.bytes
  have hml : c.maxLocals = 1 := hml0
  have hown : s.vm.findClass "com/example/ashlar/ashlar/storage/ColumnTypeOfTagPinLaw" = some m.cls := findClass_of_methodNamed Bd.named
  have hnm := (name_of_methodNamed Bd.named Bd.method).1
  have X0 : Stand p l e ({ frames := 0, cells := 0, slots := 0, locals := 0 } : Room) s m #[(.int p1)] below meth c s₁ [] 0 0 := Stand.of_body Bd
  have e0 : s₁.heap = h0 := by rw [← hh, Bd.state]; rfl
  have N0 := Fr.nil n0
  have pre0 : ∀ t, Steps p.tables e below (s₁.setTop (mkF m 0 #[.val (.int p1)] [])) t → Steps p.tables e below (s₁.setTop (entryFrame m #[(.int p1)] 1)) t := fun t k => castTop (ef_3 m p1) k
  obtain ⟨T3, X3, e3, st3⟩ := getS2 X0 hx hZ hown (host := "") (Or.inl (hw _ (List.mem_of_getElem? (i := 29) rfl))) Via.refl e0 S_DOUBLE (g := (mkF m 23 #[.val (.int p1)] [])) rfl (hb hby d3_23)
  obtain ⟨fs, hr, hrun, hended, hW, hsame⟩ := X3.leave (v := some (.ref w2)) (fun h => by rw [Bd.returns] at h; cases h)
  refine ⟨_, _, pre0 _ ?_, hrun, hended, _, _, rfl, ?_, ⟨_, rfl⟩, hW, hsame.mono (by decide) (by decide)⟩
  · show Steps p.tables e below (s₁.setTop (mkF m 0 #[.val (.int p1)] [])) _
    refine XS.iloadN X0.here hx rfl (hb hby d3_0) rfl ?_
    show Steps p.tables e below (s₁.setTop (mkF m 1 #[.val (.int p1)] [(.int p1)])) _
    refine XS.iconst X0.here hx rfl (hb hby d3_1) ?_
    show Steps p.tables e below (s₁.setTop (mkF m 2 #[.val (.int p1)] [(.int (1 : Int32)), (.int p1)])) _
    refine XS.icmpYes X0.here hx rfl (pc0 := 2) (pc' := 9) rfl (hb hby d3_2) rfl (feq hc2).2 (by decide) (by decide) ?_
    show Steps p.tables e below (s₁.setTop (mkF m 9 #[.val (.int p1)] [])) _
    refine XS.iloadN X0.here hx rfl (hb hby d3_9) rfl ?_
    show Steps p.tables e below (s₁.setTop (mkF m 10 #[.val (.int p1)] [(.int p1)])) _
    refine XS.iconst X0.here hx rfl (hb hby d3_10) ?_
    show Steps p.tables e below (s₁.setTop (mkF m 11 #[.val (.int p1)] [(.int (2 : Int32)), (.int p1)])) _
    refine XS.icmpYes X0.here hx rfl (pc0 := 11) (pc' := 18) rfl (hb hby d3_11) rfl (feq hc11).2 (by decide) (by decide) ?_
    show Steps p.tables e below (s₁.setTop (mkF m 18 #[.val (.int p1)] [])) _
    refine XS.iloadN X0.here hx rfl (hb hby d3_18) rfl ?_
    show Steps p.tables e below (s₁.setTop (mkF m 19 #[.val (.int p1)] [(.int p1)])) _
    refine XS.iconst X0.here hx rfl (hb hby d3_19) ?_
    show Steps p.tables e below (s₁.setTop (mkF m 20 #[.val (.int p1)] [(.int (3 : Int32)), (.int p1)])) _
    refine XS.icmpNo X0.here hx rfl (hb hby d3_20) rfl (teq hc20).2 ?_
    show Steps p.tables e below (s₁.setTop (mkF m 23 #[.val (.int p1)] [])) _
    refine st3 _ ?_
    show Steps p.tables e below (T3.setTop (mkF m 26 #[.val (.int p1)] [(.ref w2)])) _
    jvm_step X3.here [X3.here.top, hx, (hb hby d3_26), X3.method', Bd.returns, Value.isRef, FieldType.isReference]
    first | (intro acts; rw [hr _ acts rfl rfl rfl]) | rw [hr _ _ rfl rfl rfl]
    exact Steps.refl _
  · show Q_ex_3 Z p1 w2 h0 n0 _ T3.heap _
    rw [e3]
    exact ⟨rfl, N0, rfl⟩
theorem d3_27 : decode method_2_code 27 = .ok (.iload_n 0, 1) := by decide +kernel
theorem d3_28 : decode method_2_code 28 = .ok (.iconst 4, 1) := by decide +kernel
theorem d3_29 : decode method_2_code 29 = .ok (.if_icmp .ne 7, 3) := by decide +kernel
theorem d3_32 : decode method_2_code 32 = .ok (.getstatic 19, 3) := by decide +kernel
theorem d3_35 : decode method_2_code 35 = .ok (.areturn, 1) := by decide +kernel
def Q_ex_4 (Z : State) (p1 : Int32) (w2 : Addr) (h0 : Heap) (n0 : Nat) (v : Option Value) (h : Heap) (L : List Loc) : Prop := v = some (.ref w2) ∧ Fr n0 L ∧ h = h0
set_option maxRecDepth 65536 in
set_option maxHeartbeats 40000000 in
theorem rm_ex_4 (l : Launch) (Z : State) (a0 : Array Value) (hw : ∀ d ∈ tables_1, d.before a0 Z = true) (ws : List Jvm.Cond) (p1 : Int32) (w2 : Addr) (h0 : Heap) (n0 : Nat) (Z0 : n0 ≤ h0.size) (S_FLOAT : Sta Z h0 "com/example/ashlar/ashlar/storage/ColumnType" "FLOAT" "Lcom/example/ashlar/ashlar/storage/ColumnType;" (.ref w2)) (hc2 : ¬ (p1 = (1 : Int32))) (hc11 : ¬ (p1 = (2 : Int32))) (hc20 : ¬ (p1 = (3 : Int32))) (hc29 : p1 = (4 : Int32)) :
    MetFree l (⟨"com/example/ashlar/ashlar/storage/ColumnTypeOfTagPinLaw", "expected", "(B)Lcom/example/ashlar/ashlar/storage/ColumnType;"⟩ : MethodName) (head1 (Jvm.Cond.code (⟨"com/example/ashlar/ashlar/storage/ColumnTypeOfTagPinLaw", "expected", "(B)Lcom/example/ashlar/ashlar/storage/ColumnType;"⟩ : MethodName) method_2_code 1 (some (.object "com/example/ashlar/ashlar/storage/ColumnType")) :: ws) ({ frames := 0, cells := 0, slots := 0, locals := 0 } : Room)) (fun a U => a = #[(.int p1)] ∧ Z.Warmed39 U.vm ∧ U.heap = h0) (fun _ _ _ _ _ => True) (fun _ U o U' => ∃ v L, o = .returned v ∧ Q_ex_4 Z p1 w2 h0 n0 v U'.heap L ∧ FrameEnd U o U' L ({ frames := 0, cells := 0, slots := 0, locals := 0 } : Room).cells ({ frames := 0, cells := 0, slots := 0, locals := 0 } : Room).slots) := by
  refine MetFree.of_bodySF (plainFor_of_name pn_3) hisR ?_
  intro p e s m args below meth c s₁ Bd hml0 hP hK
  obtain ⟨rfl, hZ, hh⟩ := hP
  have hx := Bd.exec
  have hby := Bd.bytes
  have hml : c.maxLocals = 1 := hml0
  have hown : s.vm.findClass "com/example/ashlar/ashlar/storage/ColumnTypeOfTagPinLaw" = some m.cls := findClass_of_methodNamed Bd.named
  have hnm := (name_of_methodNamed Bd.named Bd.method).1
  have X0 : Stand p l e ({ frames := 0, cells := 0, slots := 0, locals := 0 } : Room) s m #[(.int p1)] below meth c s₁ [] 0 0 := Stand.of_body Bd
  have e0 : s₁.heap = h0 := by rw [← hh, Bd.state]; rfl
  have N0 := Fr.nil n0
  have pre0 : ∀ t, Steps p.tables e below (s₁.setTop (mkF m 0 #[.val (.int p1)] [])) t → Steps p.tables e below (s₁.setTop (entryFrame m #[(.int p1)] 1)) t := fun t k => castTop (ef_3 m p1) k
  obtain ⟨T3, X3, e3, st3⟩ := getS2 X0 hx hZ hown (host := "") (Or.inl (hw _ (List.mem_of_getElem? (i := 33) rfl))) Via.refl e0 S_FLOAT (g := (mkF m 32 #[.val (.int p1)] [])) rfl (hb hby d3_32)
  obtain ⟨fs, hr, hrun, hended, hW, hsame⟩ := X3.leave (v := some (.ref w2)) (fun h => by rw [Bd.returns] at h; cases h)
  refine ⟨_, _, pre0 _ ?_, hrun, hended, _, _, rfl, ?_, ⟨_, rfl⟩, hW, hsame.mono (by decide) (by decide)⟩
  · show Steps p.tables e below (s₁.setTop (mkF m 0 #[.val (.int p1)] [])) _
    refine XS.iloadN X0.here hx rfl (hb hby d3_0) rfl ?_
    show Steps p.tables e below (s₁.setTop (mkF m 1 #[.val (.int p1)] [(.int p1)])) _
    refine XS.iconst X0.here hx rfl (hb hby d3_1) ?_
    show Steps p.tables e below (s₁.setTop (mkF m 2 #[.val (.int p1)] [(.int (1 : Int32)), (.int p1)])) _
    refine XS.icmpYes X0.here hx rfl (pc0 := 2) (pc' := 9) rfl (hb hby d3_2) rfl (feq hc2).2 (by decide) (by decide) ?_
    show Steps p.tables e below (s₁.setTop (mkF m 9 #[.val (.int p1)] [])) _
    refine XS.iloadN X0.here hx rfl (hb hby d3_9) rfl ?_
    show Steps p.tables e below (s₁.setTop (mkF m 10 #[.val (.int p1)] [(.int p1)])) _
    refine XS.iconst X0.here hx rfl (hb hby d3_10) ?_
    show Steps p.tables e below (s₁.setTop (mkF m 11 #[.val (.int p1)] [(.int (2 : Int32)), (.int p1)])) _
    refine XS.icmpYes X0.here hx rfl (pc0 := 11) (pc' := 18) rfl (hb hby d3_11) rfl (feq hc11).2 (by decide) (by decide) ?_
    show Steps p.tables e below (s₁.setTop (mkF m 18 #[.val (.int p1)] [])) _
    refine XS.iloadN X0.here hx rfl (hb hby d3_18) rfl ?_
    show Steps p.tables e below (s₁.setTop (mkF m 19 #[.val (.int p1)] [(.int p1)])) _
    refine XS.iconst X0.here hx rfl (hb hby d3_19) ?_
    show Steps p.tables e below (s₁.setTop (mkF m 20 #[.val (.int p1)] [(.int (3 : Int32)), (.int p1)])) _
    refine XS.icmpYes X0.here hx rfl (pc0 := 20) (pc' := 27) rfl (hb hby d3_20) rfl (feq hc20).2 (by decide) (by decide) ?_
    show Steps p.tables e below (s₁.setTop (mkF m 27 #[.val (.int p1)] [])) _
    refine XS.iloadN X0.here hx rfl (hb hby d3_27) rfl ?_
    show Steps p.tables e below (s₁.setTop (mkF m 28 #[.val (.int p1)] [(.int p1)])) _
    refine XS.iconst X0.here hx rfl (hb hby d3_28) ?_
    show Steps p.tables e below (s₁.setTop (mkF m 29 #[.val (.int p1)] [(.int (4 : Int32)), (.int p1)])) _
    refine XS.icmpNo X0.here hx rfl (hb hby d3_29) rfl (teq hc29).2 ?_
    show Steps p.tables e below (s₁.setTop (mkF m 32 #[.val (.int p1)] [])) _
    refine st3 _ ?_
    show Steps p.tables e below (T3.setTop (mkF m 35 #[.val (.int p1)] [(.ref w2)])) _
    jvm_step X3.here [X3.here.top, hx, (hb hby d3_35), X3.method', Bd.returns, Value.isRef, FieldType.isReference]
    first | (intro acts; rw [hr _ acts rfl rfl rfl]) | rw [hr _ _ rfl rfl rfl]
    exact Steps.refl _
  · show Q_ex_4 Z p1 w2 h0 n0 _ T3.heap _
    rw [e3]
    exact ⟨rfl, N0, rfl⟩
theorem d3_36 : decode method_2_code 36 = .ok (.aconst_null, 1) := by decide +kernel
theorem d3_37 : decode method_2_code 37 = .ok (.areturn, 1) := by decide +kernel
def Q_ex_0 (Z : State) (p1 : Int32) (h0 : Heap) (n0 : Nat) (v : Option Value) (h : Heap) (L : List Loc) : Prop := v = some .null ∧ Fr n0 L ∧ h = h0
set_option maxRecDepth 65536 in
set_option maxHeartbeats 40000000 in
theorem rm_ex_0 (l : Launch) (Z : State) (a0 : Array Value) (hw : ∀ d ∈ tables_1, d.before a0 Z = true) (ws : List Jvm.Cond) (p1 : Int32) (h0 : Heap) (n0 : Nat) (Z0 : n0 ≤ h0.size) (hc2 : ¬ (p1 = (1 : Int32))) (hc11 : ¬ (p1 = (2 : Int32))) (hc20 : ¬ (p1 = (3 : Int32))) (hc29 : ¬ (p1 = (4 : Int32))) :
    MetFree l (⟨"com/example/ashlar/ashlar/storage/ColumnTypeOfTagPinLaw", "expected", "(B)Lcom/example/ashlar/ashlar/storage/ColumnType;"⟩ : MethodName) (head1 (Jvm.Cond.code (⟨"com/example/ashlar/ashlar/storage/ColumnTypeOfTagPinLaw", "expected", "(B)Lcom/example/ashlar/ashlar/storage/ColumnType;"⟩ : MethodName) method_2_code 1 (some (.object "com/example/ashlar/ashlar/storage/ColumnType")) :: ws) ({ frames := 0, cells := 0, slots := 0, locals := 0 } : Room)) (fun a U => a = #[(.int p1)] ∧ Z.Warmed39 U.vm ∧ U.heap = h0) (fun _ _ _ _ _ => True) (fun _ U o U' => ∃ v L, o = .returned v ∧ Q_ex_0 Z p1 h0 n0 v U'.heap L ∧ FrameEnd U o U' L ({ frames := 0, cells := 0, slots := 0, locals := 0 } : Room).cells ({ frames := 0, cells := 0, slots := 0, locals := 0 } : Room).slots) := by
  refine MetFree.of_bodySF (plainFor_of_name pn_3) hisR ?_
  intro p e s m args below meth c s₁ Bd hml0 hP hK
  obtain ⟨rfl, hZ, hh⟩ := hP
  have hx := Bd.exec
  have hby := Bd.bytes
  have hml : c.maxLocals = 1 := hml0
  have hown : s.vm.findClass "com/example/ashlar/ashlar/storage/ColumnTypeOfTagPinLaw" = some m.cls := findClass_of_methodNamed Bd.named
  have hnm := (name_of_methodNamed Bd.named Bd.method).1
  have X0 : Stand p l e ({ frames := 0, cells := 0, slots := 0, locals := 0 } : Room) s m #[(.int p1)] below meth c s₁ [] 0 0 := Stand.of_body Bd
  have e0 : s₁.heap = h0 := by rw [← hh, Bd.state]; rfl
  have N0 := Fr.nil n0
  have pre0 : ∀ t, Steps p.tables e below (s₁.setTop (mkF m 0 #[.val (.int p1)] [])) t → Steps p.tables e below (s₁.setTop (entryFrame m #[(.int p1)] 1)) t := fun t k => castTop (ef_3 m p1) k
  obtain ⟨fs, hr, hrun, hended, hW, hsame⟩ := X0.leave (v := some .null) (fun h => by rw [Bd.returns] at h; cases h)
  refine ⟨_, _, pre0 _ ?_, hrun, hended, _, _, rfl, ?_, ⟨_, rfl⟩, hW, hsame.mono (by decide) (by decide)⟩
  · show Steps p.tables e below (s₁.setTop (mkF m 0 #[.val (.int p1)] [])) _
    refine XS.iloadN X0.here hx rfl (hb hby d3_0) rfl ?_
    show Steps p.tables e below (s₁.setTop (mkF m 1 #[.val (.int p1)] [(.int p1)])) _
    refine XS.iconst X0.here hx rfl (hb hby d3_1) ?_
    show Steps p.tables e below (s₁.setTop (mkF m 2 #[.val (.int p1)] [(.int (1 : Int32)), (.int p1)])) _
    refine XS.icmpYes X0.here hx rfl (pc0 := 2) (pc' := 9) rfl (hb hby d3_2) rfl (feq hc2).2 (by decide) (by decide) ?_
    show Steps p.tables e below (s₁.setTop (mkF m 9 #[.val (.int p1)] [])) _
    refine XS.iloadN X0.here hx rfl (hb hby d3_9) rfl ?_
    show Steps p.tables e below (s₁.setTop (mkF m 10 #[.val (.int p1)] [(.int p1)])) _
    refine XS.iconst X0.here hx rfl (hb hby d3_10) ?_
    show Steps p.tables e below (s₁.setTop (mkF m 11 #[.val (.int p1)] [(.int (2 : Int32)), (.int p1)])) _
    refine XS.icmpYes X0.here hx rfl (pc0 := 11) (pc' := 18) rfl (hb hby d3_11) rfl (feq hc11).2 (by decide) (by decide) ?_
    show Steps p.tables e below (s₁.setTop (mkF m 18 #[.val (.int p1)] [])) _
    refine XS.iloadN X0.here hx rfl (hb hby d3_18) rfl ?_
    show Steps p.tables e below (s₁.setTop (mkF m 19 #[.val (.int p1)] [(.int p1)])) _
    refine XS.iconst X0.here hx rfl (hb hby d3_19) ?_
    show Steps p.tables e below (s₁.setTop (mkF m 20 #[.val (.int p1)] [(.int (3 : Int32)), (.int p1)])) _
    refine XS.icmpYes X0.here hx rfl (pc0 := 20) (pc' := 27) rfl (hb hby d3_20) rfl (feq hc20).2 (by decide) (by decide) ?_
    show Steps p.tables e below (s₁.setTop (mkF m 27 #[.val (.int p1)] [])) _
    refine XS.iloadN X0.here hx rfl (hb hby d3_27) rfl ?_
    show Steps p.tables e below (s₁.setTop (mkF m 28 #[.val (.int p1)] [(.int p1)])) _
    refine XS.iconst X0.here hx rfl (hb hby d3_28) ?_
    show Steps p.tables e below (s₁.setTop (mkF m 29 #[.val (.int p1)] [(.int (4 : Int32)), (.int p1)])) _
    refine XS.icmpYes X0.here hx rfl (pc0 := 29) (pc' := 36) rfl (hb hby d3_29) rfl (feq hc29).2 (by decide) (by decide) ?_
    show Steps p.tables e below (s₁.setTop (mkF m 36 #[.val (.int p1)] [])) _
    refine XS.aconstNull X0.here hx rfl (hb hby d3_36) ?_
    show Steps p.tables e below (s₁.setTop (mkF m 37 #[.val (.int p1)] [.null])) _
    jvm_step X0.here [X0.here.top, hx, (hb hby d3_37), X0.method', Bd.returns, Value.isRef, FieldType.isReference]
    first | (intro acts; rw [hr _ acts rfl rfl rfl]) | rw [hr _ _ rfl rfl rfl]
    exact Steps.refl _
  · show Q_ex_0 Z p1 h0 n0 _ s₁.heap _
    rw [e0]
    exact ⟨rfl, N0, rfl⟩
theorem pn_0 : plainName "com/example/ashlar/ashlar/storage/ColumnTypeOfTagPinLaw" = true := by first | (simp [plainName, overriddenIn]; done) | decide +kernel
theorem pd_0_0 : parseMethodDescriptor "(B)Lcom/example/ashlar/ashlar/storage/ColumnType;" = some ⟨[.byte], some (.object "com/example/ashlar/ashlar/storage/ColumnType")⟩ := by decide +kernel
theorem ef_0 (m : MethodId) (x0 : Int32) : entryFrame m #[(.int x0)] maxLocals = mkF m 0 #[.val (.int x0), .unset, .unset, .unset] [] := by first | (simp [entryFrame, mkF, argsToLocals, Value.category, maxLocals]; done) | rfl
def Q_law_1 (Z : State) (p1 : Int32) (wV : Addr) (cl : Cell) (wS : Addr) (wL : Addr) (wD : Addr) (wF : Addr) (h0 : Heap) (n0 : Nat) (v : Option Value) (h : Heap) (L : List Loc) : Prop := v = some (.int (1 : Int32)) ∧ Fr n0 L
set_option maxRecDepth 65536 in
set_option maxHeartbeats 40000000 in
theorem rm_law_1 (l : Launch) (Z : State) (a0 : Array Value) (hw : ∀ d ∈ tables_1, d.before a0 Z = true) (ws : List Jvm.Cond) (p1 : Int32) (wV : Addr) (cl : Cell) (wS : Addr) (wL : Addr) (wD : Addr) (wF : Addr) (h0 : Heap) (n0 : Nat) (Z0 : n0 ≤ h0.size) (S_V : Sta Z h0 "com/example/ashlar/ashlar/storage/ColumnType" "$VALUES" "[Lcom/example/ashlar/ashlar/storage/ColumnType;" (.ref wV)) (A_V : Arr Z h0 wV cl (.object "com/example/ashlar/ashlar/storage/ColumnType")) (E_V : Exa Z h0 wV "[Lcom/example/ashlar/ashlar/storage/ColumnType;") (F_V : FitC Z cl) (hsz : cl.slots.size = 4) (hat_0 : cl.slots[0]? = some (.ref wS)) (hat_1 : cl.slots[1]? = some (.ref wL)) (hat_2 : cl.slots[2]? = some (.ref wD)) (hat_3 : cl.slots[3]? = some (.ref wF)) (F_wS : Fld Z h0 wS "com/example/ashlar/ashlar/storage/ColumnType" "tag" "B" (.int (1 : Int32))) (F_wL : Fld Z h0 wL "com/example/ashlar/ashlar/storage/ColumnType" "tag" "B" (.int (2 : Int32))) (F_wD : Fld Z h0 wD "com/example/ashlar/ashlar/storage/ColumnType" "tag" "B" (.int (3 : Int32))) (F_wF : Fld Z h0 wF "com/example/ashlar/ashlar/storage/ColumnType" "tag" "B" (.int (4 : Int32))) (S_X : Sta Z h0 "com/example/ashlar/ashlar/storage/ColumnType" "STRING" "Lcom/example/ashlar/ashlar/storage/ColumnType;" (.ref wS)) (hk : (p1.toInt8.toInt32) = (1 : Int32)) (hc29 : (1 : Int32) = (p1.toInt8.toInt32)) :
    MetFree l x (head1 (Jvm.Cond.code x code maxLocals ret :: ws) room_1) (fun a U => a = #[(.int p1)] ∧ Z.Warmed39 U.vm ∧ U.heap = h0) (fun _ _ _ _ _ => True) (fun _ U o U' => ∃ v L, o = .returned v ∧ Q_law_1 Z p1 wV cl wS wL wD wF h0 n0 v U'.heap L ∧ FrameEnd U o U' L room_1.cells room_1.slots) := by
  refine MetFree.of_bodySF (plainFor_of_name pn_0) hisR ?_
  intro p e s m args below meth c s₁ Bd hml0 hP hK
  obtain ⟨rfl, hZ, hh⟩ := hP
  have hx := Bd.exec
  have hby := Bd.bytes
  have hml : c.maxLocals = 4 := hml0
  have hown : s.vm.findClass "com/example/ashlar/ashlar/storage/ColumnTypeOfTagPinLaw" = some m.cls := findClass_of_methodNamed Bd.named
  have hnm := (name_of_methodNamed Bd.named Bd.method).1
  have X0 : Stand p l e room_1 s m #[(.int p1)] below meth c s₁ [] 0 0 := Stand.of_body Bd
  have e0 : s₁.heap = h0 := by rw [← hh, Bd.state]; rfl
  have N0 := Fr.nil n0
  have pre0 : ∀ t, Steps p.tables e below (s₁.setTop (mkF m 0 #[.val (.int p1), .unset, .unset, .unset] [])) t → Steps p.tables e below (s₁.setTop (entryFrame m #[(.int p1)] maxLocals)) t := fun t k => castTop (ef_0 m p1) k
  obtain ⟨_, _, ⟨T2, L2, k2, n2⟩, -, X2, ⟨Lc2, hQ2, l2, y2, z2⟩, st2⟩ := Jvm.LawKit.callS X0 hx (y := (⟨"com/example/ashlar/ashlar/storage/ColumnType", "ofTag", "(B)Lcom/example/ashlar/ashlar/storage/ColumnType;"⟩ : MethodName)) hown (mvT hZ (hw _ (List.mem_of_getElem? (i := 0) rfl))) (mvT hZ (hw _ (List.mem_of_getElem? (i := 1) rfl))) (mvT hZ (hw _ (List.mem_of_getElem? (i := 2) rfl))) (mvT hZ (hw _ (List.mem_of_getElem? (i := 3) rfl))) (by decide) (backOf (W := 0) (rm_of_1 l Z a0 hw [] (p1.toInt8.toInt32) wV cl wS wL wD wF h0 n0 Z0 S_V A_V E_V F_V hsz hat_0 hat_1 hat_2 hat_3 F_wS F_wL F_wD F_wF  hk.symm) hZ (hw _ (List.mem_of_getElem? (i := 3) rfl)) (hw _ (List.mem_of_getElem? (i := 2) rfl)) (by decide) (by decide)) (g := (mkF m 4 #[.val (.int p1), .val (.int (p1.toInt8.toInt32)), .unset, .unset] [(.int (p1.toInt8.toInt32))])) rfl (by rw [hml]; rfl) (argsL := [(.int (p1.toInt8.toInt32))]) (rest := []) (lenOf pd_0_0 rfl) rfl (by show 2 * 0 + _ ≤ _; exact Nat.le_of_eq rfl) (hb hby at_4) (fun _ _ => ⟨rfl, e0, (by decide : 0 + 1 ≤ _), (by decide : 0 + 4 ≤ _)⟩)
  dsimp only [Pt.U, Pt.locs, Pt.cells, Pt.slots] at X2 l2 y2 z2 st2 hQ2
  subst l2 y2 z2
  obtain ⟨rfl, N2q, Ex2⟩ := hQ2
  have N2 := Fr.app N0 N2q
  obtain ⟨_, _, ⟨T3, L3, k3, n3⟩, -, X3, ⟨Lc3, hQ3, l3, y3, z3⟩, st3⟩ := Jvm.LawKit.callS X2 hx (y := (⟨"com/example/ashlar/ashlar/storage/ColumnTypeOfTagPinLaw", "expected", "(B)Lcom/example/ashlar/ashlar/storage/ColumnType;"⟩ : MethodName)) hown (mvT hZ (hw _ (List.mem_of_getElem? (i := 25) rfl))) (mvT hZ (hw _ (List.mem_of_getElem? (i := 26) rfl))) (mvT hZ (hw _ (List.mem_of_getElem? (i := 27) rfl))) (mvT hZ (hw _ (List.mem_of_getElem? (i := 28) rfl))) (by decide) (backOf (W := 0) (rm_ex_1 l Z a0 hw [] (p1.toInt8.toInt32) wS T2.heap n0 (Nat.le_trans Z0 Ex2.1) (S_X.ext Ex2)  hk) hZ (hw _ (List.mem_of_getElem? (i := 28) rfl)) (hw _ (List.mem_of_getElem? (i := 27) rfl)) (by decide) (by decide)) (g := (mkF m 9 #[.val (.int p1), .val (.int (p1.toInt8.toInt32)), .val (.ref wS), .unset] [(.int (p1.toInt8.toInt32))])) rfl (by rw [hml]; rfl) (argsL := [(.int (p1.toInt8.toInt32))]) (rest := []) (lenOf pd_0_0 rfl) rfl (by show 2 * 0 + _ ≤ _; exact Nat.le_of_eq rfl) (hb hby at_9) (fun _ _ => ⟨rfl, rfl, (by decide : 1 + 0 ≤ _), (by decide : 4 + 0 ≤ _)⟩)
  dsimp only [Pt.U, Pt.locs, Pt.cells, Pt.slots] at X3 l3 y3 z3 st3 hQ3
  subst l3 y3 z3
  obtain ⟨rfl, N3q, K3⟩ := hQ3
  have N3 := Fr.app N2 N3q
  obtain ⟨T4, X4, e4, st4⟩ := getF X3 hx hZ hown (host := "") (Or.inl (hw _ (List.mem_of_getElem? (i := 30) rfl))) Via.refl K3 (F_wS.ext Ex2) (g := (mkF m 25 #[.val (.int p1), .val (.int (p1.toInt8.toInt32)), .val (.ref wS), .val (.ref wS)] [(.ref wS)])) rfl rfl (hb hby at_25)
  obtain ⟨fs, hr, hrun, hended, hW, hsame⟩ := X4.leave (v := some (.int (1 : Int32))) (fun h => by rw [Bd.returns] at h; cases h)
  refine ⟨_, _, pre0 _ ?_, hrun, hended, _, _, rfl, ?_, ⟨_, rfl⟩, hW, hsame.mono (by decide) (by decide)⟩
  · show Steps p.tables e below (s₁.setTop (mkF m 0 #[.val (.int p1), .unset, .unset, .unset] [])) _
    refine XS.iloadN X0.here hx rfl (hb hby at_0) rfl ?_
    show Steps p.tables e below (s₁.setTop (mkF m 1 #[.val (.int p1), .unset, .unset, .unset] [(.int p1)])) _
    refine XS.i2b X0.here hx rfl (hb hby at_1) rfl ?_
    show Steps p.tables e below (s₁.setTop (mkF m 2 #[.val (.int p1), .unset, .unset, .unset] [(.int (p1.toInt8.toInt32))])) _
    refine XS.istoreN X0.here hx rfl (hb hby at_2) rfl (l' := #[.val (.int p1), .val (.int (p1.toInt8.toInt32)), .unset, .unset]) rfl ?_
    show Steps p.tables e below (s₁.setTop (mkF m 3 #[.val (.int p1), .val (.int (p1.toInt8.toInt32)), .unset, .unset] [])) _
    refine XS.iloadN X0.here hx rfl (hb hby at_3) rfl ?_
    show Steps p.tables e below (s₁.setTop (mkF m 4 #[.val (.int p1), .val (.int (p1.toInt8.toInt32)), .unset, .unset] [(.int (p1.toInt8.toInt32))])) _
    refine st2 _ ?_
    show Steps p.tables e below (T2.setTop (mkF m 7 #[.val (.int p1), .val (.int (p1.toInt8.toInt32)), .unset, .unset] [(.ref wS)])) _
    refine XS.astoreN X2.here hx rfl (hb hby at_7) rfl rfl (l' := #[.val (.int p1), .val (.int (p1.toInt8.toInt32)), .val (.ref wS), .unset]) rfl ?_
    show Steps p.tables e below (T2.setTop (mkF m 8 #[.val (.int p1), .val (.int (p1.toInt8.toInt32)), .val (.ref wS), .unset] [])) _
    refine XS.iloadN X2.here hx rfl (hb hby at_8) rfl ?_
    show Steps p.tables e below (T2.setTop (mkF m 9 #[.val (.int p1), .val (.int (p1.toInt8.toInt32)), .val (.ref wS), .unset] [(.int (p1.toInt8.toInt32))])) _
    refine st3 _ ?_
    show Steps p.tables e below (T3.setTop (mkF m 12 #[.val (.int p1), .val (.int (p1.toInt8.toInt32)), .val (.ref wS), .unset] [(.ref wS)])) _
    refine XS.astoreN X3.here hx rfl (hb hby at_12) rfl rfl (l' := #[.val (.int p1), .val (.int (p1.toInt8.toInt32)), .val (.ref wS), .val (.ref wS)]) rfl ?_
    show Steps p.tables e below (T3.setTop (mkF m 13 #[.val (.int p1), .val (.int (p1.toInt8.toInt32)), .val (.ref wS), .val (.ref wS)] [])) _
    refine XS.aloadN X3.here hx rfl (hb hby at_13) rfl rfl ?_
    show Steps p.tables e below (T3.setTop (mkF m 14 #[.val (.int p1), .val (.int (p1.toInt8.toInt32)), .val (.ref wS), .val (.ref wS)] [(.ref wS)])) _
    refine XS.aloadN X3.here hx rfl (hb hby at_14) rfl rfl ?_
    show Steps p.tables e below (T3.setTop (mkF m 15 #[.val (.int p1), .val (.int (p1.toInt8.toInt32)), .val (.ref wS), .val (.ref wS)] [(.ref wS), (.ref wS)])) _
    refine Jvm.RoadKit.acmp (g := (mkF m 15 #[.val (.int p1), .val (.int (p1.toInt8.toInt32)), .val (.ref wS), .val (.ref wS)] [(.ref wS), (.ref wS)])) X3 hx rfl rfl rfl (pc0 := 15) (pc' := 20) (same := true) rfl (hb hby at_15) rfl (decide_eq_true rfl) (by decide) (by decide) ?_
    show Steps p.tables e below (T3.setTop (mkF m 20 #[.val (.int p1), .val (.int (p1.toInt8.toInt32)), .val (.ref wS), .val (.ref wS)] [])) _
    refine XS.aloadN X3.here hx rfl (hb hby at_20) rfl rfl ?_
    show Steps p.tables e below (T3.setTop (mkF m 21 #[.val (.int p1), .val (.int (p1.toInt8.toInt32)), .val (.ref wS), .val (.ref wS)] [(.ref wS)])) _
    refine XS.ifnullNo X3.here hx rfl (hb hby at_21) rfl ?_
    show Steps p.tables e below (T3.setTop (mkF m 24 #[.val (.int p1), .val (.int (p1.toInt8.toInt32)), .val (.ref wS), .val (.ref wS)] [])) _
    refine XS.aloadN X3.here hx rfl (hb hby at_24) rfl rfl ?_
    show Steps p.tables e below (T3.setTop (mkF m 25 #[.val (.int p1), .val (.int (p1.toInt8.toInt32)), .val (.ref wS), .val (.ref wS)] [(.ref wS)])) _
    refine st4 _ ?_
    show Steps p.tables e below (T4.setTop (mkF m 28 #[.val (.int p1), .val (.int (p1.toInt8.toInt32)), .val (.ref wS), .val (.ref wS)] [(.int (1 : Int32))])) _
    refine XS.iloadN X4.here hx rfl (hb hby at_28) rfl ?_
    show Steps p.tables e below (T4.setTop (mkF m 29 #[.val (.int p1), .val (.int (p1.toInt8.toInt32)), .val (.ref wS), .val (.ref wS)] [(.int (p1.toInt8.toInt32)), (.int (1 : Int32))])) _
    refine XS.icmpNo X4.here hx rfl (hb hby at_29) rfl (teq hc29).2 ?_
    show Steps p.tables e below (T4.setTop (mkF m 32 #[.val (.int p1), .val (.int (p1.toInt8.toInt32)), .val (.ref wS), .val (.ref wS)] [])) _
    refine XS.iconst X4.here hx rfl (hb hby at_32) ?_
    show Steps p.tables e below (T4.setTop (mkF m 33 #[.val (.int p1), .val (.int (p1.toInt8.toInt32)), .val (.ref wS), .val (.ref wS)] [(.int (1 : Int32))])) _
    refine XS.goto X4.here hx rfl (pc0 := 33) (pc' := 37) rfl (hb hby at_33) (by decide) (by decide) ?_
    show Steps p.tables e below (T4.setTop (mkF m 37 #[.val (.int p1), .val (.int (p1.toInt8.toInt32)), .val (.ref wS), .val (.ref wS)] [(.int (1 : Int32))])) _
    exact retN X4 hx (t := .boolean) Bd.returns (by simp) (hb hby at_37) hr
  · show Q_law_1 Z p1 wV cl wS wL wD wF h0 n0 _ T4.heap _
    rw [e4]
    exact ⟨rfl, N3⟩
def Q_law_2 (Z : State) (p1 : Int32) (wV : Addr) (cl : Cell) (wS : Addr) (wL : Addr) (wD : Addr) (wF : Addr) (h0 : Heap) (n0 : Nat) (v : Option Value) (h : Heap) (L : List Loc) : Prop := v = some (.int (1 : Int32)) ∧ Fr n0 L
set_option maxRecDepth 65536 in
set_option maxHeartbeats 40000000 in
theorem rm_law_2 (l : Launch) (Z : State) (a0 : Array Value) (hw : ∀ d ∈ tables_1, d.before a0 Z = true) (ws : List Jvm.Cond) (p1 : Int32) (wV : Addr) (cl : Cell) (wS : Addr) (wL : Addr) (wD : Addr) (wF : Addr) (h0 : Heap) (n0 : Nat) (Z0 : n0 ≤ h0.size) (S_V : Sta Z h0 "com/example/ashlar/ashlar/storage/ColumnType" "$VALUES" "[Lcom/example/ashlar/ashlar/storage/ColumnType;" (.ref wV)) (A_V : Arr Z h0 wV cl (.object "com/example/ashlar/ashlar/storage/ColumnType")) (E_V : Exa Z h0 wV "[Lcom/example/ashlar/ashlar/storage/ColumnType;") (F_V : FitC Z cl) (hsz : cl.slots.size = 4) (hat_0 : cl.slots[0]? = some (.ref wS)) (hat_1 : cl.slots[1]? = some (.ref wL)) (hat_2 : cl.slots[2]? = some (.ref wD)) (hat_3 : cl.slots[3]? = some (.ref wF)) (F_wS : Fld Z h0 wS "com/example/ashlar/ashlar/storage/ColumnType" "tag" "B" (.int (1 : Int32))) (F_wL : Fld Z h0 wL "com/example/ashlar/ashlar/storage/ColumnType" "tag" "B" (.int (2 : Int32))) (F_wD : Fld Z h0 wD "com/example/ashlar/ashlar/storage/ColumnType" "tag" "B" (.int (3 : Int32))) (F_wF : Fld Z h0 wF "com/example/ashlar/ashlar/storage/ColumnType" "tag" "B" (.int (4 : Int32))) (S_X : Sta Z h0 "com/example/ashlar/ashlar/storage/ColumnType" "LONG" "Lcom/example/ashlar/ashlar/storage/ColumnType;" (.ref wL)) (n1 : ¬ ((p1.toInt8.toInt32) = (1 : Int32))) (hk : (p1.toInt8.toInt32) = (2 : Int32)) (hc29 : (2 : Int32) = (p1.toInt8.toInt32)) :
    MetFree l x (head1 (Jvm.Cond.code x code maxLocals ret :: ws) room_1) (fun a U => a = #[(.int p1)] ∧ Z.Warmed39 U.vm ∧ U.heap = h0) (fun _ _ _ _ _ => True) (fun _ U o U' => ∃ v L, o = .returned v ∧ Q_law_2 Z p1 wV cl wS wL wD wF h0 n0 v U'.heap L ∧ FrameEnd U o U' L room_1.cells room_1.slots) := by
  refine MetFree.of_bodySF (plainFor_of_name pn_0) hisR ?_
  intro p e s m args below meth c s₁ Bd hml0 hP hK
  obtain ⟨rfl, hZ, hh⟩ := hP
  have hx := Bd.exec
  have hby := Bd.bytes
  have hml : c.maxLocals = 4 := hml0
  have hown : s.vm.findClass "com/example/ashlar/ashlar/storage/ColumnTypeOfTagPinLaw" = some m.cls := findClass_of_methodNamed Bd.named
  have hnm := (name_of_methodNamed Bd.named Bd.method).1
  have X0 : Stand p l e room_1 s m #[(.int p1)] below meth c s₁ [] 0 0 := Stand.of_body Bd
  have e0 : s₁.heap = h0 := by rw [← hh, Bd.state]; rfl
  have N0 := Fr.nil n0
  have pre0 : ∀ t, Steps p.tables e below (s₁.setTop (mkF m 0 #[.val (.int p1), .unset, .unset, .unset] [])) t → Steps p.tables e below (s₁.setTop (entryFrame m #[(.int p1)] maxLocals)) t := fun t k => castTop (ef_0 m p1) k
  obtain ⟨_, _, ⟨T2, L2, k2, n2⟩, -, X2, ⟨Lc2, hQ2, l2, y2, z2⟩, st2⟩ := Jvm.LawKit.callS X0 hx (y := (⟨"com/example/ashlar/ashlar/storage/ColumnType", "ofTag", "(B)Lcom/example/ashlar/ashlar/storage/ColumnType;"⟩ : MethodName)) hown (mvT hZ (hw _ (List.mem_of_getElem? (i := 0) rfl))) (mvT hZ (hw _ (List.mem_of_getElem? (i := 1) rfl))) (mvT hZ (hw _ (List.mem_of_getElem? (i := 2) rfl))) (mvT hZ (hw _ (List.mem_of_getElem? (i := 3) rfl))) (by decide) (backOf (W := 0) (rm_of_2 l Z a0 hw [] (p1.toInt8.toInt32) wV cl wS wL wD wF h0 n0 Z0 S_V A_V E_V F_V hsz hat_0 hat_1 hat_2 hat_3 F_wS F_wL F_wD F_wF (fun q => n1 q.symm) hk.symm) hZ (hw _ (List.mem_of_getElem? (i := 3) rfl)) (hw _ (List.mem_of_getElem? (i := 2) rfl)) (by decide) (by decide)) (g := (mkF m 4 #[.val (.int p1), .val (.int (p1.toInt8.toInt32)), .unset, .unset] [(.int (p1.toInt8.toInt32))])) rfl (by rw [hml]; rfl) (argsL := [(.int (p1.toInt8.toInt32))]) (rest := []) (lenOf pd_0_0 rfl) rfl (by show 2 * 0 + _ ≤ _; exact Nat.le_of_eq rfl) (hb hby at_4) (fun _ _ => ⟨rfl, e0, (by decide : 0 + 1 ≤ _), (by decide : 0 + 4 ≤ _)⟩)
  dsimp only [Pt.U, Pt.locs, Pt.cells, Pt.slots] at X2 l2 y2 z2 st2 hQ2
  subst l2 y2 z2
  obtain ⟨rfl, N2q, Ex2⟩ := hQ2
  have N2 := Fr.app N0 N2q
  obtain ⟨_, _, ⟨T3, L3, k3, n3⟩, -, X3, ⟨Lc3, hQ3, l3, y3, z3⟩, st3⟩ := Jvm.LawKit.callS X2 hx (y := (⟨"com/example/ashlar/ashlar/storage/ColumnTypeOfTagPinLaw", "expected", "(B)Lcom/example/ashlar/ashlar/storage/ColumnType;"⟩ : MethodName)) hown (mvT hZ (hw _ (List.mem_of_getElem? (i := 25) rfl))) (mvT hZ (hw _ (List.mem_of_getElem? (i := 26) rfl))) (mvT hZ (hw _ (List.mem_of_getElem? (i := 27) rfl))) (mvT hZ (hw _ (List.mem_of_getElem? (i := 28) rfl))) (by decide) (backOf (W := 0) (rm_ex_2 l Z a0 hw [] (p1.toInt8.toInt32) wL T2.heap n0 (Nat.le_trans Z0 Ex2.1) (S_X.ext Ex2) n1 hk) hZ (hw _ (List.mem_of_getElem? (i := 28) rfl)) (hw _ (List.mem_of_getElem? (i := 27) rfl)) (by decide) (by decide)) (g := (mkF m 9 #[.val (.int p1), .val (.int (p1.toInt8.toInt32)), .val (.ref wL), .unset] [(.int (p1.toInt8.toInt32))])) rfl (by rw [hml]; rfl) (argsL := [(.int (p1.toInt8.toInt32))]) (rest := []) (lenOf pd_0_0 rfl) rfl (by show 2 * 0 + _ ≤ _; exact Nat.le_of_eq rfl) (hb hby at_9) (fun _ _ => ⟨rfl, rfl, (by decide : 1 + 0 ≤ _), (by decide : 4 + 0 ≤ _)⟩)
  dsimp only [Pt.U, Pt.locs, Pt.cells, Pt.slots] at X3 l3 y3 z3 st3 hQ3
  subst l3 y3 z3
  obtain ⟨rfl, N3q, K3⟩ := hQ3
  have N3 := Fr.app N2 N3q
  obtain ⟨T4, X4, e4, st4⟩ := getF X3 hx hZ hown (host := "") (Or.inl (hw _ (List.mem_of_getElem? (i := 30) rfl))) Via.refl K3 (F_wL.ext Ex2) (g := (mkF m 25 #[.val (.int p1), .val (.int (p1.toInt8.toInt32)), .val (.ref wL), .val (.ref wL)] [(.ref wL)])) rfl rfl (hb hby at_25)
  obtain ⟨fs, hr, hrun, hended, hW, hsame⟩ := X4.leave (v := some (.int (1 : Int32))) (fun h => by rw [Bd.returns] at h; cases h)
  refine ⟨_, _, pre0 _ ?_, hrun, hended, _, _, rfl, ?_, ⟨_, rfl⟩, hW, hsame.mono (by decide) (by decide)⟩
  · show Steps p.tables e below (s₁.setTop (mkF m 0 #[.val (.int p1), .unset, .unset, .unset] [])) _
    refine XS.iloadN X0.here hx rfl (hb hby at_0) rfl ?_
    show Steps p.tables e below (s₁.setTop (mkF m 1 #[.val (.int p1), .unset, .unset, .unset] [(.int p1)])) _
    refine XS.i2b X0.here hx rfl (hb hby at_1) rfl ?_
    show Steps p.tables e below (s₁.setTop (mkF m 2 #[.val (.int p1), .unset, .unset, .unset] [(.int (p1.toInt8.toInt32))])) _
    refine XS.istoreN X0.here hx rfl (hb hby at_2) rfl (l' := #[.val (.int p1), .val (.int (p1.toInt8.toInt32)), .unset, .unset]) rfl ?_
    show Steps p.tables e below (s₁.setTop (mkF m 3 #[.val (.int p1), .val (.int (p1.toInt8.toInt32)), .unset, .unset] [])) _
    refine XS.iloadN X0.here hx rfl (hb hby at_3) rfl ?_
    show Steps p.tables e below (s₁.setTop (mkF m 4 #[.val (.int p1), .val (.int (p1.toInt8.toInt32)), .unset, .unset] [(.int (p1.toInt8.toInt32))])) _
    refine st2 _ ?_
    show Steps p.tables e below (T2.setTop (mkF m 7 #[.val (.int p1), .val (.int (p1.toInt8.toInt32)), .unset, .unset] [(.ref wL)])) _
    refine XS.astoreN X2.here hx rfl (hb hby at_7) rfl rfl (l' := #[.val (.int p1), .val (.int (p1.toInt8.toInt32)), .val (.ref wL), .unset]) rfl ?_
    show Steps p.tables e below (T2.setTop (mkF m 8 #[.val (.int p1), .val (.int (p1.toInt8.toInt32)), .val (.ref wL), .unset] [])) _
    refine XS.iloadN X2.here hx rfl (hb hby at_8) rfl ?_
    show Steps p.tables e below (T2.setTop (mkF m 9 #[.val (.int p1), .val (.int (p1.toInt8.toInt32)), .val (.ref wL), .unset] [(.int (p1.toInt8.toInt32))])) _
    refine st3 _ ?_
    show Steps p.tables e below (T3.setTop (mkF m 12 #[.val (.int p1), .val (.int (p1.toInt8.toInt32)), .val (.ref wL), .unset] [(.ref wL)])) _
    refine XS.astoreN X3.here hx rfl (hb hby at_12) rfl rfl (l' := #[.val (.int p1), .val (.int (p1.toInt8.toInt32)), .val (.ref wL), .val (.ref wL)]) rfl ?_
    show Steps p.tables e below (T3.setTop (mkF m 13 #[.val (.int p1), .val (.int (p1.toInt8.toInt32)), .val (.ref wL), .val (.ref wL)] [])) _
    refine XS.aloadN X3.here hx rfl (hb hby at_13) rfl rfl ?_
    show Steps p.tables e below (T3.setTop (mkF m 14 #[.val (.int p1), .val (.int (p1.toInt8.toInt32)), .val (.ref wL), .val (.ref wL)] [(.ref wL)])) _
    refine XS.aloadN X3.here hx rfl (hb hby at_14) rfl rfl ?_
    show Steps p.tables e below (T3.setTop (mkF m 15 #[.val (.int p1), .val (.int (p1.toInt8.toInt32)), .val (.ref wL), .val (.ref wL)] [(.ref wL), (.ref wL)])) _
    refine Jvm.RoadKit.acmp (g := (mkF m 15 #[.val (.int p1), .val (.int (p1.toInt8.toInt32)), .val (.ref wL), .val (.ref wL)] [(.ref wL), (.ref wL)])) X3 hx rfl rfl rfl (pc0 := 15) (pc' := 20) (same := true) rfl (hb hby at_15) rfl (decide_eq_true rfl) (by decide) (by decide) ?_
    show Steps p.tables e below (T3.setTop (mkF m 20 #[.val (.int p1), .val (.int (p1.toInt8.toInt32)), .val (.ref wL), .val (.ref wL)] [])) _
    refine XS.aloadN X3.here hx rfl (hb hby at_20) rfl rfl ?_
    show Steps p.tables e below (T3.setTop (mkF m 21 #[.val (.int p1), .val (.int (p1.toInt8.toInt32)), .val (.ref wL), .val (.ref wL)] [(.ref wL)])) _
    refine XS.ifnullNo X3.here hx rfl (hb hby at_21) rfl ?_
    show Steps p.tables e below (T3.setTop (mkF m 24 #[.val (.int p1), .val (.int (p1.toInt8.toInt32)), .val (.ref wL), .val (.ref wL)] [])) _
    refine XS.aloadN X3.here hx rfl (hb hby at_24) rfl rfl ?_
    show Steps p.tables e below (T3.setTop (mkF m 25 #[.val (.int p1), .val (.int (p1.toInt8.toInt32)), .val (.ref wL), .val (.ref wL)] [(.ref wL)])) _
    refine st4 _ ?_
    show Steps p.tables e below (T4.setTop (mkF m 28 #[.val (.int p1), .val (.int (p1.toInt8.toInt32)), .val (.ref wL), .val (.ref wL)] [(.int (2 : Int32))])) _
    refine XS.iloadN X4.here hx rfl (hb hby at_28) rfl ?_
    show Steps p.tables e below (T4.setTop (mkF m 29 #[.val (.int p1), .val (.int (p1.toInt8.toInt32)), .val (.ref wL), .val (.ref wL)] [(.int (p1.toInt8.toInt32)), (.int (2 : Int32))])) _
    refine XS.icmpNo X4.here hx rfl (hb hby at_29) rfl (teq hc29).2 ?_
    show Steps p.tables e below (T4.setTop (mkF m 32 #[.val (.int p1), .val (.int (p1.toInt8.toInt32)), .val (.ref wL), .val (.ref wL)] [])) _
    refine XS.iconst X4.here hx rfl (hb hby at_32) ?_
    show Steps p.tables e below (T4.setTop (mkF m 33 #[.val (.int p1), .val (.int (p1.toInt8.toInt32)), .val (.ref wL), .val (.ref wL)] [(.int (1 : Int32))])) _
    refine XS.goto X4.here hx rfl (pc0 := 33) (pc' := 37) rfl (hb hby at_33) (by decide) (by decide) ?_
    show Steps p.tables e below (T4.setTop (mkF m 37 #[.val (.int p1), .val (.int (p1.toInt8.toInt32)), .val (.ref wL), .val (.ref wL)] [(.int (1 : Int32))])) _
    exact retN X4 hx (t := .boolean) Bd.returns (by simp) (hb hby at_37) hr
  · show Q_law_2 Z p1 wV cl wS wL wD wF h0 n0 _ T4.heap _
    rw [e4]
    exact ⟨rfl, N3⟩
def Q_law_3 (Z : State) (p1 : Int32) (wV : Addr) (cl : Cell) (wS : Addr) (wL : Addr) (wD : Addr) (wF : Addr) (h0 : Heap) (n0 : Nat) (v : Option Value) (h : Heap) (L : List Loc) : Prop := v = some (.int (1 : Int32)) ∧ Fr n0 L
set_option maxRecDepth 65536 in
set_option maxHeartbeats 40000000 in
theorem rm_law_3 (l : Launch) (Z : State) (a0 : Array Value) (hw : ∀ d ∈ tables_1, d.before a0 Z = true) (ws : List Jvm.Cond) (p1 : Int32) (wV : Addr) (cl : Cell) (wS : Addr) (wL : Addr) (wD : Addr) (wF : Addr) (h0 : Heap) (n0 : Nat) (Z0 : n0 ≤ h0.size) (S_V : Sta Z h0 "com/example/ashlar/ashlar/storage/ColumnType" "$VALUES" "[Lcom/example/ashlar/ashlar/storage/ColumnType;" (.ref wV)) (A_V : Arr Z h0 wV cl (.object "com/example/ashlar/ashlar/storage/ColumnType")) (E_V : Exa Z h0 wV "[Lcom/example/ashlar/ashlar/storage/ColumnType;") (F_V : FitC Z cl) (hsz : cl.slots.size = 4) (hat_0 : cl.slots[0]? = some (.ref wS)) (hat_1 : cl.slots[1]? = some (.ref wL)) (hat_2 : cl.slots[2]? = some (.ref wD)) (hat_3 : cl.slots[3]? = some (.ref wF)) (F_wS : Fld Z h0 wS "com/example/ashlar/ashlar/storage/ColumnType" "tag" "B" (.int (1 : Int32))) (F_wL : Fld Z h0 wL "com/example/ashlar/ashlar/storage/ColumnType" "tag" "B" (.int (2 : Int32))) (F_wD : Fld Z h0 wD "com/example/ashlar/ashlar/storage/ColumnType" "tag" "B" (.int (3 : Int32))) (F_wF : Fld Z h0 wF "com/example/ashlar/ashlar/storage/ColumnType" "tag" "B" (.int (4 : Int32))) (S_X : Sta Z h0 "com/example/ashlar/ashlar/storage/ColumnType" "DOUBLE" "Lcom/example/ashlar/ashlar/storage/ColumnType;" (.ref wD)) (n1 : ¬ ((p1.toInt8.toInt32) = (1 : Int32))) (n2 : ¬ ((p1.toInt8.toInt32) = (2 : Int32))) (hk : (p1.toInt8.toInt32) = (3 : Int32)) (hc29 : (3 : Int32) = (p1.toInt8.toInt32)) :
    MetFree l x (head1 (Jvm.Cond.code x code maxLocals ret :: ws) room_1) (fun a U => a = #[(.int p1)] ∧ Z.Warmed39 U.vm ∧ U.heap = h0) (fun _ _ _ _ _ => True) (fun _ U o U' => ∃ v L, o = .returned v ∧ Q_law_3 Z p1 wV cl wS wL wD wF h0 n0 v U'.heap L ∧ FrameEnd U o U' L room_1.cells room_1.slots) := by
  refine MetFree.of_bodySF (plainFor_of_name pn_0) hisR ?_
  intro p e s m args below meth c s₁ Bd hml0 hP hK
  obtain ⟨rfl, hZ, hh⟩ := hP
  have hx := Bd.exec
  have hby := Bd.bytes
  have hml : c.maxLocals = 4 := hml0
  have hown : s.vm.findClass "com/example/ashlar/ashlar/storage/ColumnTypeOfTagPinLaw" = some m.cls := findClass_of_methodNamed Bd.named
  have hnm := (name_of_methodNamed Bd.named Bd.method).1
  have X0 : Stand p l e room_1 s m #[(.int p1)] below meth c s₁ [] 0 0 := Stand.of_body Bd
  have e0 : s₁.heap = h0 := by rw [← hh, Bd.state]; rfl
  have N0 := Fr.nil n0
  have pre0 : ∀ t, Steps p.tables e below (s₁.setTop (mkF m 0 #[.val (.int p1), .unset, .unset, .unset] [])) t → Steps p.tables e below (s₁.setTop (entryFrame m #[(.int p1)] maxLocals)) t := fun t k => castTop (ef_0 m p1) k
  obtain ⟨_, _, ⟨T2, L2, k2, n2⟩, -, X2, ⟨Lc2, hQ2, l2, y2, z2⟩, st2⟩ := Jvm.LawKit.callS X0 hx (y := (⟨"com/example/ashlar/ashlar/storage/ColumnType", "ofTag", "(B)Lcom/example/ashlar/ashlar/storage/ColumnType;"⟩ : MethodName)) hown (mvT hZ (hw _ (List.mem_of_getElem? (i := 0) rfl))) (mvT hZ (hw _ (List.mem_of_getElem? (i := 1) rfl))) (mvT hZ (hw _ (List.mem_of_getElem? (i := 2) rfl))) (mvT hZ (hw _ (List.mem_of_getElem? (i := 3) rfl))) (by decide) (backOf (W := 0) (rm_of_3 l Z a0 hw [] (p1.toInt8.toInt32) wV cl wS wL wD wF h0 n0 Z0 S_V A_V E_V F_V hsz hat_0 hat_1 hat_2 hat_3 F_wS F_wL F_wD F_wF (fun q => n1 q.symm) (fun q => n2 q.symm) hk.symm) hZ (hw _ (List.mem_of_getElem? (i := 3) rfl)) (hw _ (List.mem_of_getElem? (i := 2) rfl)) (by decide) (by decide)) (g := (mkF m 4 #[.val (.int p1), .val (.int (p1.toInt8.toInt32)), .unset, .unset] [(.int (p1.toInt8.toInt32))])) rfl (by rw [hml]; rfl) (argsL := [(.int (p1.toInt8.toInt32))]) (rest := []) (lenOf pd_0_0 rfl) rfl (by show 2 * 0 + _ ≤ _; exact Nat.le_of_eq rfl) (hb hby at_4) (fun _ _ => ⟨rfl, e0, (by decide : 0 + 1 ≤ _), (by decide : 0 + 4 ≤ _)⟩)
  dsimp only [Pt.U, Pt.locs, Pt.cells, Pt.slots] at X2 l2 y2 z2 st2 hQ2
  subst l2 y2 z2
  obtain ⟨rfl, N2q, Ex2⟩ := hQ2
  have N2 := Fr.app N0 N2q
  obtain ⟨_, _, ⟨T3, L3, k3, n3⟩, -, X3, ⟨Lc3, hQ3, l3, y3, z3⟩, st3⟩ := Jvm.LawKit.callS X2 hx (y := (⟨"com/example/ashlar/ashlar/storage/ColumnTypeOfTagPinLaw", "expected", "(B)Lcom/example/ashlar/ashlar/storage/ColumnType;"⟩ : MethodName)) hown (mvT hZ (hw _ (List.mem_of_getElem? (i := 25) rfl))) (mvT hZ (hw _ (List.mem_of_getElem? (i := 26) rfl))) (mvT hZ (hw _ (List.mem_of_getElem? (i := 27) rfl))) (mvT hZ (hw _ (List.mem_of_getElem? (i := 28) rfl))) (by decide) (backOf (W := 0) (rm_ex_3 l Z a0 hw [] (p1.toInt8.toInt32) wD T2.heap n0 (Nat.le_trans Z0 Ex2.1) (S_X.ext Ex2) n1 n2 hk) hZ (hw _ (List.mem_of_getElem? (i := 28) rfl)) (hw _ (List.mem_of_getElem? (i := 27) rfl)) (by decide) (by decide)) (g := (mkF m 9 #[.val (.int p1), .val (.int (p1.toInt8.toInt32)), .val (.ref wD), .unset] [(.int (p1.toInt8.toInt32))])) rfl (by rw [hml]; rfl) (argsL := [(.int (p1.toInt8.toInt32))]) (rest := []) (lenOf pd_0_0 rfl) rfl (by show 2 * 0 + _ ≤ _; exact Nat.le_of_eq rfl) (hb hby at_9) (fun _ _ => ⟨rfl, rfl, (by decide : 1 + 0 ≤ _), (by decide : 4 + 0 ≤ _)⟩)
  dsimp only [Pt.U, Pt.locs, Pt.cells, Pt.slots] at X3 l3 y3 z3 st3 hQ3
  subst l3 y3 z3
  obtain ⟨rfl, N3q, K3⟩ := hQ3
  have N3 := Fr.app N2 N3q
  obtain ⟨T4, X4, e4, st4⟩ := getF X3 hx hZ hown (host := "") (Or.inl (hw _ (List.mem_of_getElem? (i := 30) rfl))) Via.refl K3 (F_wD.ext Ex2) (g := (mkF m 25 #[.val (.int p1), .val (.int (p1.toInt8.toInt32)), .val (.ref wD), .val (.ref wD)] [(.ref wD)])) rfl rfl (hb hby at_25)
  obtain ⟨fs, hr, hrun, hended, hW, hsame⟩ := X4.leave (v := some (.int (1 : Int32))) (fun h => by rw [Bd.returns] at h; cases h)
  refine ⟨_, _, pre0 _ ?_, hrun, hended, _, _, rfl, ?_, ⟨_, rfl⟩, hW, hsame.mono (by decide) (by decide)⟩
  · show Steps p.tables e below (s₁.setTop (mkF m 0 #[.val (.int p1), .unset, .unset, .unset] [])) _
    refine XS.iloadN X0.here hx rfl (hb hby at_0) rfl ?_
    show Steps p.tables e below (s₁.setTop (mkF m 1 #[.val (.int p1), .unset, .unset, .unset] [(.int p1)])) _
    refine XS.i2b X0.here hx rfl (hb hby at_1) rfl ?_
    show Steps p.tables e below (s₁.setTop (mkF m 2 #[.val (.int p1), .unset, .unset, .unset] [(.int (p1.toInt8.toInt32))])) _
    refine XS.istoreN X0.here hx rfl (hb hby at_2) rfl (l' := #[.val (.int p1), .val (.int (p1.toInt8.toInt32)), .unset, .unset]) rfl ?_
    show Steps p.tables e below (s₁.setTop (mkF m 3 #[.val (.int p1), .val (.int (p1.toInt8.toInt32)), .unset, .unset] [])) _
    refine XS.iloadN X0.here hx rfl (hb hby at_3) rfl ?_
    show Steps p.tables e below (s₁.setTop (mkF m 4 #[.val (.int p1), .val (.int (p1.toInt8.toInt32)), .unset, .unset] [(.int (p1.toInt8.toInt32))])) _
    refine st2 _ ?_
    show Steps p.tables e below (T2.setTop (mkF m 7 #[.val (.int p1), .val (.int (p1.toInt8.toInt32)), .unset, .unset] [(.ref wD)])) _
    refine XS.astoreN X2.here hx rfl (hb hby at_7) rfl rfl (l' := #[.val (.int p1), .val (.int (p1.toInt8.toInt32)), .val (.ref wD), .unset]) rfl ?_
    show Steps p.tables e below (T2.setTop (mkF m 8 #[.val (.int p1), .val (.int (p1.toInt8.toInt32)), .val (.ref wD), .unset] [])) _
    refine XS.iloadN X2.here hx rfl (hb hby at_8) rfl ?_
    show Steps p.tables e below (T2.setTop (mkF m 9 #[.val (.int p1), .val (.int (p1.toInt8.toInt32)), .val (.ref wD), .unset] [(.int (p1.toInt8.toInt32))])) _
    refine st3 _ ?_
    show Steps p.tables e below (T3.setTop (mkF m 12 #[.val (.int p1), .val (.int (p1.toInt8.toInt32)), .val (.ref wD), .unset] [(.ref wD)])) _
    refine XS.astoreN X3.here hx rfl (hb hby at_12) rfl rfl (l' := #[.val (.int p1), .val (.int (p1.toInt8.toInt32)), .val (.ref wD), .val (.ref wD)]) rfl ?_
    show Steps p.tables e below (T3.setTop (mkF m 13 #[.val (.int p1), .val (.int (p1.toInt8.toInt32)), .val (.ref wD), .val (.ref wD)] [])) _
    refine XS.aloadN X3.here hx rfl (hb hby at_13) rfl rfl ?_
    show Steps p.tables e below (T3.setTop (mkF m 14 #[.val (.int p1), .val (.int (p1.toInt8.toInt32)), .val (.ref wD), .val (.ref wD)] [(.ref wD)])) _
    refine XS.aloadN X3.here hx rfl (hb hby at_14) rfl rfl ?_
    show Steps p.tables e below (T3.setTop (mkF m 15 #[.val (.int p1), .val (.int (p1.toInt8.toInt32)), .val (.ref wD), .val (.ref wD)] [(.ref wD), (.ref wD)])) _
    refine Jvm.RoadKit.acmp (g := (mkF m 15 #[.val (.int p1), .val (.int (p1.toInt8.toInt32)), .val (.ref wD), .val (.ref wD)] [(.ref wD), (.ref wD)])) X3 hx rfl rfl rfl (pc0 := 15) (pc' := 20) (same := true) rfl (hb hby at_15) rfl (decide_eq_true rfl) (by decide) (by decide) ?_
    show Steps p.tables e below (T3.setTop (mkF m 20 #[.val (.int p1), .val (.int (p1.toInt8.toInt32)), .val (.ref wD), .val (.ref wD)] [])) _
    refine XS.aloadN X3.here hx rfl (hb hby at_20) rfl rfl ?_
    show Steps p.tables e below (T3.setTop (mkF m 21 #[.val (.int p1), .val (.int (p1.toInt8.toInt32)), .val (.ref wD), .val (.ref wD)] [(.ref wD)])) _
    refine XS.ifnullNo X3.here hx rfl (hb hby at_21) rfl ?_
    show Steps p.tables e below (T3.setTop (mkF m 24 #[.val (.int p1), .val (.int (p1.toInt8.toInt32)), .val (.ref wD), .val (.ref wD)] [])) _
    refine XS.aloadN X3.here hx rfl (hb hby at_24) rfl rfl ?_
    show Steps p.tables e below (T3.setTop (mkF m 25 #[.val (.int p1), .val (.int (p1.toInt8.toInt32)), .val (.ref wD), .val (.ref wD)] [(.ref wD)])) _
    refine st4 _ ?_
    show Steps p.tables e below (T4.setTop (mkF m 28 #[.val (.int p1), .val (.int (p1.toInt8.toInt32)), .val (.ref wD), .val (.ref wD)] [(.int (3 : Int32))])) _
    refine XS.iloadN X4.here hx rfl (hb hby at_28) rfl ?_
    show Steps p.tables e below (T4.setTop (mkF m 29 #[.val (.int p1), .val (.int (p1.toInt8.toInt32)), .val (.ref wD), .val (.ref wD)] [(.int (p1.toInt8.toInt32)), (.int (3 : Int32))])) _
    refine XS.icmpNo X4.here hx rfl (hb hby at_29) rfl (teq hc29).2 ?_
    show Steps p.tables e below (T4.setTop (mkF m 32 #[.val (.int p1), .val (.int (p1.toInt8.toInt32)), .val (.ref wD), .val (.ref wD)] [])) _
    refine XS.iconst X4.here hx rfl (hb hby at_32) ?_
    show Steps p.tables e below (T4.setTop (mkF m 33 #[.val (.int p1), .val (.int (p1.toInt8.toInt32)), .val (.ref wD), .val (.ref wD)] [(.int (1 : Int32))])) _
    refine XS.goto X4.here hx rfl (pc0 := 33) (pc' := 37) rfl (hb hby at_33) (by decide) (by decide) ?_
    show Steps p.tables e below (T4.setTop (mkF m 37 #[.val (.int p1), .val (.int (p1.toInt8.toInt32)), .val (.ref wD), .val (.ref wD)] [(.int (1 : Int32))])) _
    exact retN X4 hx (t := .boolean) Bd.returns (by simp) (hb hby at_37) hr
  · show Q_law_3 Z p1 wV cl wS wL wD wF h0 n0 _ T4.heap _
    rw [e4]
    exact ⟨rfl, N3⟩
def Q_law_4 (Z : State) (p1 : Int32) (wV : Addr) (cl : Cell) (wS : Addr) (wL : Addr) (wD : Addr) (wF : Addr) (h0 : Heap) (n0 : Nat) (v : Option Value) (h : Heap) (L : List Loc) : Prop := v = some (.int (1 : Int32)) ∧ Fr n0 L
set_option maxRecDepth 65536 in
set_option maxHeartbeats 40000000 in
theorem rm_law_4 (l : Launch) (Z : State) (a0 : Array Value) (hw : ∀ d ∈ tables_1, d.before a0 Z = true) (ws : List Jvm.Cond) (p1 : Int32) (wV : Addr) (cl : Cell) (wS : Addr) (wL : Addr) (wD : Addr) (wF : Addr) (h0 : Heap) (n0 : Nat) (Z0 : n0 ≤ h0.size) (S_V : Sta Z h0 "com/example/ashlar/ashlar/storage/ColumnType" "$VALUES" "[Lcom/example/ashlar/ashlar/storage/ColumnType;" (.ref wV)) (A_V : Arr Z h0 wV cl (.object "com/example/ashlar/ashlar/storage/ColumnType")) (E_V : Exa Z h0 wV "[Lcom/example/ashlar/ashlar/storage/ColumnType;") (F_V : FitC Z cl) (hsz : cl.slots.size = 4) (hat_0 : cl.slots[0]? = some (.ref wS)) (hat_1 : cl.slots[1]? = some (.ref wL)) (hat_2 : cl.slots[2]? = some (.ref wD)) (hat_3 : cl.slots[3]? = some (.ref wF)) (F_wS : Fld Z h0 wS "com/example/ashlar/ashlar/storage/ColumnType" "tag" "B" (.int (1 : Int32))) (F_wL : Fld Z h0 wL "com/example/ashlar/ashlar/storage/ColumnType" "tag" "B" (.int (2 : Int32))) (F_wD : Fld Z h0 wD "com/example/ashlar/ashlar/storage/ColumnType" "tag" "B" (.int (3 : Int32))) (F_wF : Fld Z h0 wF "com/example/ashlar/ashlar/storage/ColumnType" "tag" "B" (.int (4 : Int32))) (S_X : Sta Z h0 "com/example/ashlar/ashlar/storage/ColumnType" "FLOAT" "Lcom/example/ashlar/ashlar/storage/ColumnType;" (.ref wF)) (n1 : ¬ ((p1.toInt8.toInt32) = (1 : Int32))) (n2 : ¬ ((p1.toInt8.toInt32) = (2 : Int32))) (n3 : ¬ ((p1.toInt8.toInt32) = (3 : Int32))) (hk : (p1.toInt8.toInt32) = (4 : Int32)) (hc29 : (4 : Int32) = (p1.toInt8.toInt32)) :
    MetFree l x (head1 (Jvm.Cond.code x code maxLocals ret :: ws) room_1) (fun a U => a = #[(.int p1)] ∧ Z.Warmed39 U.vm ∧ U.heap = h0) (fun _ _ _ _ _ => True) (fun _ U o U' => ∃ v L, o = .returned v ∧ Q_law_4 Z p1 wV cl wS wL wD wF h0 n0 v U'.heap L ∧ FrameEnd U o U' L room_1.cells room_1.slots) := by
  refine MetFree.of_bodySF (plainFor_of_name pn_0) hisR ?_
  intro p e s m args below meth c s₁ Bd hml0 hP hK
  obtain ⟨rfl, hZ, hh⟩ := hP
  have hx := Bd.exec
  have hby := Bd.bytes
  have hml : c.maxLocals = 4 := hml0
  have hown : s.vm.findClass "com/example/ashlar/ashlar/storage/ColumnTypeOfTagPinLaw" = some m.cls := findClass_of_methodNamed Bd.named
  have hnm := (name_of_methodNamed Bd.named Bd.method).1
  have X0 : Stand p l e room_1 s m #[(.int p1)] below meth c s₁ [] 0 0 := Stand.of_body Bd
  have e0 : s₁.heap = h0 := by rw [← hh, Bd.state]; rfl
  have N0 := Fr.nil n0
  have pre0 : ∀ t, Steps p.tables e below (s₁.setTop (mkF m 0 #[.val (.int p1), .unset, .unset, .unset] [])) t → Steps p.tables e below (s₁.setTop (entryFrame m #[(.int p1)] maxLocals)) t := fun t k => castTop (ef_0 m p1) k
  obtain ⟨_, _, ⟨T2, L2, k2, n2⟩, -, X2, ⟨Lc2, hQ2, l2, y2, z2⟩, st2⟩ := Jvm.LawKit.callS X0 hx (y := (⟨"com/example/ashlar/ashlar/storage/ColumnType", "ofTag", "(B)Lcom/example/ashlar/ashlar/storage/ColumnType;"⟩ : MethodName)) hown (mvT hZ (hw _ (List.mem_of_getElem? (i := 0) rfl))) (mvT hZ (hw _ (List.mem_of_getElem? (i := 1) rfl))) (mvT hZ (hw _ (List.mem_of_getElem? (i := 2) rfl))) (mvT hZ (hw _ (List.mem_of_getElem? (i := 3) rfl))) (by decide) (backOf (W := 0) (rm_of_4 l Z a0 hw [] (p1.toInt8.toInt32) wV cl wS wL wD wF h0 n0 Z0 S_V A_V E_V F_V hsz hat_0 hat_1 hat_2 hat_3 F_wS F_wL F_wD F_wF (fun q => n1 q.symm) (fun q => n2 q.symm) (fun q => n3 q.symm) hk.symm) hZ (hw _ (List.mem_of_getElem? (i := 3) rfl)) (hw _ (List.mem_of_getElem? (i := 2) rfl)) (by decide) (by decide)) (g := (mkF m 4 #[.val (.int p1), .val (.int (p1.toInt8.toInt32)), .unset, .unset] [(.int (p1.toInt8.toInt32))])) rfl (by rw [hml]; rfl) (argsL := [(.int (p1.toInt8.toInt32))]) (rest := []) (lenOf pd_0_0 rfl) rfl (by show 2 * 0 + _ ≤ _; exact Nat.le_of_eq rfl) (hb hby at_4) (fun _ _ => ⟨rfl, e0, (by decide : 0 + 1 ≤ _), (by decide : 0 + 4 ≤ _)⟩)
  dsimp only [Pt.U, Pt.locs, Pt.cells, Pt.slots] at X2 l2 y2 z2 st2 hQ2
  subst l2 y2 z2
  obtain ⟨rfl, N2q, Ex2⟩ := hQ2
  have N2 := Fr.app N0 N2q
  obtain ⟨_, _, ⟨T3, L3, k3, n3⟩, -, X3, ⟨Lc3, hQ3, l3, y3, z3⟩, st3⟩ := Jvm.LawKit.callS X2 hx (y := (⟨"com/example/ashlar/ashlar/storage/ColumnTypeOfTagPinLaw", "expected", "(B)Lcom/example/ashlar/ashlar/storage/ColumnType;"⟩ : MethodName)) hown (mvT hZ (hw _ (List.mem_of_getElem? (i := 25) rfl))) (mvT hZ (hw _ (List.mem_of_getElem? (i := 26) rfl))) (mvT hZ (hw _ (List.mem_of_getElem? (i := 27) rfl))) (mvT hZ (hw _ (List.mem_of_getElem? (i := 28) rfl))) (by decide) (backOf (W := 0) (rm_ex_4 l Z a0 hw [] (p1.toInt8.toInt32) wF T2.heap n0 (Nat.le_trans Z0 Ex2.1) (S_X.ext Ex2) n1 n2 n3 hk) hZ (hw _ (List.mem_of_getElem? (i := 28) rfl)) (hw _ (List.mem_of_getElem? (i := 27) rfl)) (by decide) (by decide)) (g := (mkF m 9 #[.val (.int p1), .val (.int (p1.toInt8.toInt32)), .val (.ref wF), .unset] [(.int (p1.toInt8.toInt32))])) rfl (by rw [hml]; rfl) (argsL := [(.int (p1.toInt8.toInt32))]) (rest := []) (lenOf pd_0_0 rfl) rfl (by show 2 * 0 + _ ≤ _; exact Nat.le_of_eq rfl) (hb hby at_9) (fun _ _ => ⟨rfl, rfl, (by decide : 1 + 0 ≤ _), (by decide : 4 + 0 ≤ _)⟩)
  dsimp only [Pt.U, Pt.locs, Pt.cells, Pt.slots] at X3 l3 y3 z3 st3 hQ3
  subst l3 y3 z3
  obtain ⟨rfl, N3q, K3⟩ := hQ3
  have N3 := Fr.app N2 N3q
  obtain ⟨T4, X4, e4, st4⟩ := getF X3 hx hZ hown (host := "") (Or.inl (hw _ (List.mem_of_getElem? (i := 30) rfl))) Via.refl K3 (F_wF.ext Ex2) (g := (mkF m 25 #[.val (.int p1), .val (.int (p1.toInt8.toInt32)), .val (.ref wF), .val (.ref wF)] [(.ref wF)])) rfl rfl (hb hby at_25)
  obtain ⟨fs, hr, hrun, hended, hW, hsame⟩ := X4.leave (v := some (.int (1 : Int32))) (fun h => by rw [Bd.returns] at h; cases h)
  refine ⟨_, _, pre0 _ ?_, hrun, hended, _, _, rfl, ?_, ⟨_, rfl⟩, hW, hsame.mono (by decide) (by decide)⟩
  · show Steps p.tables e below (s₁.setTop (mkF m 0 #[.val (.int p1), .unset, .unset, .unset] [])) _
    refine XS.iloadN X0.here hx rfl (hb hby at_0) rfl ?_
    show Steps p.tables e below (s₁.setTop (mkF m 1 #[.val (.int p1), .unset, .unset, .unset] [(.int p1)])) _
    refine XS.i2b X0.here hx rfl (hb hby at_1) rfl ?_
    show Steps p.tables e below (s₁.setTop (mkF m 2 #[.val (.int p1), .unset, .unset, .unset] [(.int (p1.toInt8.toInt32))])) _
    refine XS.istoreN X0.here hx rfl (hb hby at_2) rfl (l' := #[.val (.int p1), .val (.int (p1.toInt8.toInt32)), .unset, .unset]) rfl ?_
    show Steps p.tables e below (s₁.setTop (mkF m 3 #[.val (.int p1), .val (.int (p1.toInt8.toInt32)), .unset, .unset] [])) _
    refine XS.iloadN X0.here hx rfl (hb hby at_3) rfl ?_
    show Steps p.tables e below (s₁.setTop (mkF m 4 #[.val (.int p1), .val (.int (p1.toInt8.toInt32)), .unset, .unset] [(.int (p1.toInt8.toInt32))])) _
    refine st2 _ ?_
    show Steps p.tables e below (T2.setTop (mkF m 7 #[.val (.int p1), .val (.int (p1.toInt8.toInt32)), .unset, .unset] [(.ref wF)])) _
    refine XS.astoreN X2.here hx rfl (hb hby at_7) rfl rfl (l' := #[.val (.int p1), .val (.int (p1.toInt8.toInt32)), .val (.ref wF), .unset]) rfl ?_
    show Steps p.tables e below (T2.setTop (mkF m 8 #[.val (.int p1), .val (.int (p1.toInt8.toInt32)), .val (.ref wF), .unset] [])) _
    refine XS.iloadN X2.here hx rfl (hb hby at_8) rfl ?_
    show Steps p.tables e below (T2.setTop (mkF m 9 #[.val (.int p1), .val (.int (p1.toInt8.toInt32)), .val (.ref wF), .unset] [(.int (p1.toInt8.toInt32))])) _
    refine st3 _ ?_
    show Steps p.tables e below (T3.setTop (mkF m 12 #[.val (.int p1), .val (.int (p1.toInt8.toInt32)), .val (.ref wF), .unset] [(.ref wF)])) _
    refine XS.astoreN X3.here hx rfl (hb hby at_12) rfl rfl (l' := #[.val (.int p1), .val (.int (p1.toInt8.toInt32)), .val (.ref wF), .val (.ref wF)]) rfl ?_
    show Steps p.tables e below (T3.setTop (mkF m 13 #[.val (.int p1), .val (.int (p1.toInt8.toInt32)), .val (.ref wF), .val (.ref wF)] [])) _
    refine XS.aloadN X3.here hx rfl (hb hby at_13) rfl rfl ?_
    show Steps p.tables e below (T3.setTop (mkF m 14 #[.val (.int p1), .val (.int (p1.toInt8.toInt32)), .val (.ref wF), .val (.ref wF)] [(.ref wF)])) _
    refine XS.aloadN X3.here hx rfl (hb hby at_14) rfl rfl ?_
    show Steps p.tables e below (T3.setTop (mkF m 15 #[.val (.int p1), .val (.int (p1.toInt8.toInt32)), .val (.ref wF), .val (.ref wF)] [(.ref wF), (.ref wF)])) _
    refine Jvm.RoadKit.acmp (g := (mkF m 15 #[.val (.int p1), .val (.int (p1.toInt8.toInt32)), .val (.ref wF), .val (.ref wF)] [(.ref wF), (.ref wF)])) X3 hx rfl rfl rfl (pc0 := 15) (pc' := 20) (same := true) rfl (hb hby at_15) rfl (decide_eq_true rfl) (by decide) (by decide) ?_
    show Steps p.tables e below (T3.setTop (mkF m 20 #[.val (.int p1), .val (.int (p1.toInt8.toInt32)), .val (.ref wF), .val (.ref wF)] [])) _
    refine XS.aloadN X3.here hx rfl (hb hby at_20) rfl rfl ?_
    show Steps p.tables e below (T3.setTop (mkF m 21 #[.val (.int p1), .val (.int (p1.toInt8.toInt32)), .val (.ref wF), .val (.ref wF)] [(.ref wF)])) _
    refine XS.ifnullNo X3.here hx rfl (hb hby at_21) rfl ?_
    show Steps p.tables e below (T3.setTop (mkF m 24 #[.val (.int p1), .val (.int (p1.toInt8.toInt32)), .val (.ref wF), .val (.ref wF)] [])) _
    refine XS.aloadN X3.here hx rfl (hb hby at_24) rfl rfl ?_
    show Steps p.tables e below (T3.setTop (mkF m 25 #[.val (.int p1), .val (.int (p1.toInt8.toInt32)), .val (.ref wF), .val (.ref wF)] [(.ref wF)])) _
    refine st4 _ ?_
    show Steps p.tables e below (T4.setTop (mkF m 28 #[.val (.int p1), .val (.int (p1.toInt8.toInt32)), .val (.ref wF), .val (.ref wF)] [(.int (4 : Int32))])) _
    refine XS.iloadN X4.here hx rfl (hb hby at_28) rfl ?_
    show Steps p.tables e below (T4.setTop (mkF m 29 #[.val (.int p1), .val (.int (p1.toInt8.toInt32)), .val (.ref wF), .val (.ref wF)] [(.int (p1.toInt8.toInt32)), (.int (4 : Int32))])) _
    refine XS.icmpNo X4.here hx rfl (hb hby at_29) rfl (teq hc29).2 ?_
    show Steps p.tables e below (T4.setTop (mkF m 32 #[.val (.int p1), .val (.int (p1.toInt8.toInt32)), .val (.ref wF), .val (.ref wF)] [])) _
    refine XS.iconst X4.here hx rfl (hb hby at_32) ?_
    show Steps p.tables e below (T4.setTop (mkF m 33 #[.val (.int p1), .val (.int (p1.toInt8.toInt32)), .val (.ref wF), .val (.ref wF)] [(.int (1 : Int32))])) _
    refine XS.goto X4.here hx rfl (pc0 := 33) (pc' := 37) rfl (hb hby at_33) (by decide) (by decide) ?_
    show Steps p.tables e below (T4.setTop (mkF m 37 #[.val (.int p1), .val (.int (p1.toInt8.toInt32)), .val (.ref wF), .val (.ref wF)] [(.int (1 : Int32))])) _
    exact retN X4 hx (t := .boolean) Bd.returns (by simp) (hb hby at_37) hr
  · show Q_law_4 Z p1 wV cl wS wL wD wF h0 n0 _ T4.heap _
    rw [e4]
    exact ⟨rfl, N3⟩
def Q_law_0 (Z : State) (p1 : Int32) (wV : Addr) (cl : Cell) (wS : Addr) (wL : Addr) (wD : Addr) (wF : Addr) (h0 : Heap) (n0 : Nat) (v : Option Value) (h : Heap) (L : List Loc) : Prop := v = some (.int (1 : Int32)) ∧ Fr n0 L
set_option maxRecDepth 65536 in
set_option maxHeartbeats 40000000 in
theorem rm_law_0 (l : Launch) (Z : State) (a0 : Array Value) (hw : ∀ d ∈ tables_1, d.before a0 Z = true) (ws : List Jvm.Cond) (p1 : Int32) (wV : Addr) (cl : Cell) (wS : Addr) (wL : Addr) (wD : Addr) (wF : Addr) (h0 : Heap) (n0 : Nat) (Z0 : n0 ≤ h0.size) (S_V : Sta Z h0 "com/example/ashlar/ashlar/storage/ColumnType" "$VALUES" "[Lcom/example/ashlar/ashlar/storage/ColumnType;" (.ref wV)) (A_V : Arr Z h0 wV cl (.object "com/example/ashlar/ashlar/storage/ColumnType")) (E_V : Exa Z h0 wV "[Lcom/example/ashlar/ashlar/storage/ColumnType;") (F_V : FitC Z cl) (hsz : cl.slots.size = 4) (hat_0 : cl.slots[0]? = some (.ref wS)) (hat_1 : cl.slots[1]? = some (.ref wL)) (hat_2 : cl.slots[2]? = some (.ref wD)) (hat_3 : cl.slots[3]? = some (.ref wF)) (F_wS : Fld Z h0 wS "com/example/ashlar/ashlar/storage/ColumnType" "tag" "B" (.int (1 : Int32))) (F_wL : Fld Z h0 wL "com/example/ashlar/ashlar/storage/ColumnType" "tag" "B" (.int (2 : Int32))) (F_wD : Fld Z h0 wD "com/example/ashlar/ashlar/storage/ColumnType" "tag" "B" (.int (3 : Int32))) (F_wF : Fld Z h0 wF "com/example/ashlar/ashlar/storage/ColumnType" "tag" "B" (.int (4 : Int32))) (n1 : ¬ ((p1.toInt8.toInt32) = (1 : Int32))) (n2 : ¬ ((p1.toInt8.toInt32) = (2 : Int32))) (n3 : ¬ ((p1.toInt8.toInt32) = (3 : Int32))) (n4 : ¬ ((p1.toInt8.toInt32) = (4 : Int32))) :
    MetFree l x (head1 (Jvm.Cond.code x code maxLocals ret :: ws) room_1) (fun a U => a = #[(.int p1)] ∧ Z.Warmed39 U.vm ∧ U.heap = h0) (fun _ _ _ _ _ => True) (fun _ U o U' => ∃ v L, o = .returned v ∧ Q_law_0 Z p1 wV cl wS wL wD wF h0 n0 v U'.heap L ∧ FrameEnd U o U' L room_1.cells room_1.slots) := by
  refine MetFree.of_bodySF (plainFor_of_name pn_0) hisR ?_
  intro p e s m args below meth c s₁ Bd hml0 hP hK
  obtain ⟨rfl, hZ, hh⟩ := hP
  have hx := Bd.exec
  have hby := Bd.bytes
  have hml : c.maxLocals = 4 := hml0
  have hown : s.vm.findClass "com/example/ashlar/ashlar/storage/ColumnTypeOfTagPinLaw" = some m.cls := findClass_of_methodNamed Bd.named
  have hnm := (name_of_methodNamed Bd.named Bd.method).1
  have X0 : Stand p l e room_1 s m #[(.int p1)] below meth c s₁ [] 0 0 := Stand.of_body Bd
  have e0 : s₁.heap = h0 := by rw [← hh, Bd.state]; rfl
  have N0 := Fr.nil n0
  have pre0 : ∀ t, Steps p.tables e below (s₁.setTop (mkF m 0 #[.val (.int p1), .unset, .unset, .unset] [])) t → Steps p.tables e below (s₁.setTop (entryFrame m #[(.int p1)] maxLocals)) t := fun t k => castTop (ef_0 m p1) k
  obtain ⟨_, _, ⟨T2, L2, k2, n2⟩, -, X2, ⟨Lc2, hQ2, l2, y2, z2⟩, st2⟩ := Jvm.LawKit.callS X0 hx (y := (⟨"com/example/ashlar/ashlar/storage/ColumnType", "ofTag", "(B)Lcom/example/ashlar/ashlar/storage/ColumnType;"⟩ : MethodName)) hown (mvT hZ (hw _ (List.mem_of_getElem? (i := 0) rfl))) (mvT hZ (hw _ (List.mem_of_getElem? (i := 1) rfl))) (mvT hZ (hw _ (List.mem_of_getElem? (i := 2) rfl))) (mvT hZ (hw _ (List.mem_of_getElem? (i := 3) rfl))) (by decide) (backOf (W := 0) (rm_of_0 l Z a0 hw [] (p1.toInt8.toInt32) wV cl wS wL wD wF h0 n0 Z0 S_V A_V E_V F_V hsz hat_0 hat_1 hat_2 hat_3 F_wS F_wL F_wD F_wF (fun q => n1 q.symm) (fun q => n2 q.symm) (fun q => n3 q.symm) (fun q => n4 q.symm)) hZ (hw _ (List.mem_of_getElem? (i := 3) rfl)) (hw _ (List.mem_of_getElem? (i := 2) rfl)) (by decide) (by decide)) (g := (mkF m 4 #[.val (.int p1), .val (.int (p1.toInt8.toInt32)), .unset, .unset] [(.int (p1.toInt8.toInt32))])) rfl (by rw [hml]; rfl) (argsL := [(.int (p1.toInt8.toInt32))]) (rest := []) (lenOf pd_0_0 rfl) rfl (by show 2 * 0 + _ ≤ _; exact Nat.le_of_eq rfl) (hb hby at_4) (fun _ _ => ⟨rfl, e0, (by decide : 0 + 1 ≤ _), (by decide : 0 + 4 ≤ _)⟩)
  dsimp only [Pt.U, Pt.locs, Pt.cells, Pt.slots] at X2 l2 y2 z2 st2 hQ2
  subst l2 y2 z2
  obtain ⟨rfl, N2q, Ex2⟩ := hQ2
  have N2 := Fr.app N0 N2q
  obtain ⟨_, _, ⟨T3, L3, k3, n3⟩, -, X3, ⟨Lc3, hQ3, l3, y3, z3⟩, st3⟩ := Jvm.LawKit.callS X2 hx (y := (⟨"com/example/ashlar/ashlar/storage/ColumnTypeOfTagPinLaw", "expected", "(B)Lcom/example/ashlar/ashlar/storage/ColumnType;"⟩ : MethodName)) hown (mvT hZ (hw _ (List.mem_of_getElem? (i := 25) rfl))) (mvT hZ (hw _ (List.mem_of_getElem? (i := 26) rfl))) (mvT hZ (hw _ (List.mem_of_getElem? (i := 27) rfl))) (mvT hZ (hw _ (List.mem_of_getElem? (i := 28) rfl))) (by decide) (backOf (W := 0) (rm_ex_0 l Z a0 hw [] (p1.toInt8.toInt32)  T2.heap n0 (Nat.le_trans Z0 Ex2.1) n1 n2 n3 n4) hZ (hw _ (List.mem_of_getElem? (i := 28) rfl)) (hw _ (List.mem_of_getElem? (i := 27) rfl)) (by decide) (by decide)) (g := (mkF m 9 #[.val (.int p1), .val (.int (p1.toInt8.toInt32)), .val .null, .unset] [(.int (p1.toInt8.toInt32))])) rfl (by rw [hml]; rfl) (argsL := [(.int (p1.toInt8.toInt32))]) (rest := []) (lenOf pd_0_0 rfl) rfl (by show 2 * 0 + _ ≤ _; exact Nat.le_of_eq rfl) (hb hby at_9) (fun _ _ => ⟨rfl, rfl, (by decide : 1 + 0 ≤ _), (by decide : 4 + 0 ≤ _)⟩)
  dsimp only [Pt.U, Pt.locs, Pt.cells, Pt.slots] at X3 l3 y3 z3 st3 hQ3
  subst l3 y3 z3
  obtain ⟨rfl, N3q, K3⟩ := hQ3
  have N3 := Fr.app N2 N3q
  obtain ⟨fs, hr, hrun, hended, hW, hsame⟩ := X3.leave (v := some (.int (1 : Int32))) (fun h => by rw [Bd.returns] at h; cases h)
  refine ⟨_, _, pre0 _ ?_, hrun, hended, _, _, rfl, ?_, ⟨_, rfl⟩, hW, hsame.mono (by decide) (by decide)⟩
  · show Steps p.tables e below (s₁.setTop (mkF m 0 #[.val (.int p1), .unset, .unset, .unset] [])) _
    refine XS.iloadN X0.here hx rfl (hb hby at_0) rfl ?_
    show Steps p.tables e below (s₁.setTop (mkF m 1 #[.val (.int p1), .unset, .unset, .unset] [(.int p1)])) _
    refine XS.i2b X0.here hx rfl (hb hby at_1) rfl ?_
    show Steps p.tables e below (s₁.setTop (mkF m 2 #[.val (.int p1), .unset, .unset, .unset] [(.int (p1.toInt8.toInt32))])) _
    refine XS.istoreN X0.here hx rfl (hb hby at_2) rfl (l' := #[.val (.int p1), .val (.int (p1.toInt8.toInt32)), .unset, .unset]) rfl ?_
    show Steps p.tables e below (s₁.setTop (mkF m 3 #[.val (.int p1), .val (.int (p1.toInt8.toInt32)), .unset, .unset] [])) _
    refine XS.iloadN X0.here hx rfl (hb hby at_3) rfl ?_
    show Steps p.tables e below (s₁.setTop (mkF m 4 #[.val (.int p1), .val (.int (p1.toInt8.toInt32)), .unset, .unset] [(.int (p1.toInt8.toInt32))])) _
    refine st2 _ ?_
    show Steps p.tables e below (T2.setTop (mkF m 7 #[.val (.int p1), .val (.int (p1.toInt8.toInt32)), .unset, .unset] [.null])) _
    refine XS.astoreN X2.here hx rfl (hb hby at_7) rfl rfl (l' := #[.val (.int p1), .val (.int (p1.toInt8.toInt32)), .val .null, .unset]) rfl ?_
    show Steps p.tables e below (T2.setTop (mkF m 8 #[.val (.int p1), .val (.int (p1.toInt8.toInt32)), .val .null, .unset] [])) _
    refine XS.iloadN X2.here hx rfl (hb hby at_8) rfl ?_
    show Steps p.tables e below (T2.setTop (mkF m 9 #[.val (.int p1), .val (.int (p1.toInt8.toInt32)), .val .null, .unset] [(.int (p1.toInt8.toInt32))])) _
    refine st3 _ ?_
    show Steps p.tables e below (T3.setTop (mkF m 12 #[.val (.int p1), .val (.int (p1.toInt8.toInt32)), .val .null, .unset] [.null])) _
    refine XS.astoreN X3.here hx rfl (hb hby at_12) rfl rfl (l' := #[.val (.int p1), .val (.int (p1.toInt8.toInt32)), .val .null, .val .null]) rfl ?_
    show Steps p.tables e below (T3.setTop (mkF m 13 #[.val (.int p1), .val (.int (p1.toInt8.toInt32)), .val .null, .val .null] [])) _
    refine XS.aloadN X3.here hx rfl (hb hby at_13) rfl rfl ?_
    show Steps p.tables e below (T3.setTop (mkF m 14 #[.val (.int p1), .val (.int (p1.toInt8.toInt32)), .val .null, .val .null] [.null])) _
    refine XS.aloadN X3.here hx rfl (hb hby at_14) rfl rfl ?_
    show Steps p.tables e below (T3.setTop (mkF m 15 #[.val (.int p1), .val (.int (p1.toInt8.toInt32)), .val .null, .val .null] [.null, .null])) _
    refine Jvm.RoadKit.acmp (g := (mkF m 15 #[.val (.int p1), .val (.int (p1.toInt8.toInt32)), .val .null, .val .null] [.null, .null])) X3 hx rfl rfl rfl (pc0 := 15) (pc' := 20) (same := true) rfl (hb hby at_15) rfl (decide_eq_true rfl) (by decide) (by decide) ?_
    show Steps p.tables e below (T3.setTop (mkF m 20 #[.val (.int p1), .val (.int (p1.toInt8.toInt32)), .val .null, .val .null] [])) _
    refine XS.aloadN X3.here hx rfl (hb hby at_20) rfl rfl ?_
    show Steps p.tables e below (T3.setTop (mkF m 21 #[.val (.int p1), .val (.int (p1.toInt8.toInt32)), .val .null, .val .null] [.null])) _
    refine XS.ifnullYes X3.here hx rfl (pc0 := 21) (pc' := 32) rfl (hb hby at_21) rfl (by decide) (by decide) ?_
    show Steps p.tables e below (T3.setTop (mkF m 32 #[.val (.int p1), .val (.int (p1.toInt8.toInt32)), .val .null, .val .null] [])) _
    refine XS.iconst X3.here hx rfl (hb hby at_32) ?_
    show Steps p.tables e below (T3.setTop (mkF m 33 #[.val (.int p1), .val (.int (p1.toInt8.toInt32)), .val .null, .val .null] [(.int (1 : Int32))])) _
    refine XS.goto X3.here hx rfl (pc0 := 33) (pc' := 37) rfl (hb hby at_33) (by decide) (by decide) ?_
    show Steps p.tables e below (T3.setTop (mkF m 37 #[.val (.int p1), .val (.int (p1.toInt8.toInt32)), .val .null, .val .null] [(.int (1 : Int32))])) _
    exact retN X3 hx (t := .boolean) Bd.returns (by simp) (hb hby at_37) hr
  · show Q_law_0 Z p1 wV cl wS wL wD wF h0 n0 _ T3.heap _
    rw [K3]
    exact ⟨rfl, N3⟩
theorem own_len {args : Array Value} {s : State} {t : Term} {a : Addr} {cl : Cell} {ty : FieldType} (A : Arr s s.heap a cl ty) (ev : t.eval args s none [] s = some (.ref a)) (h : (Term.length t).eval args s none [] s = some (.int 4)) : cl.slots.size = 4 := by
  have q := A.fin (Vm.Alike.refl _)
  by_cases hl : cl.slots.size < 2 ^ 31
  · rw [len_f ev q hl] at h
    have e := Value.int.inj (Option.some.inj h)
    have e2 := congrArg Int32.toInt e
    rw [len_toInt hl] at e2
    have e3 : (4 : Int32).toInt = 4 := by decide
    omega
  · simp [Term.eval, ev, q, hl] at h
set_option maxRecDepth 65536 in
set_option maxHeartbeats 40000000 in
theorem comes_1 {Post : Tables → Env → Array Value → State → Outcome → State → Prop} (hpost : ∀ tb e args s v u, (limb_1_1.after args s (.returned v) u = true ∧ limb_1_2.after args s (.returned v) u = true ∧ True) → FrameEnd s (.returned v) u (Jvm.fieldLocs frame_1_writes args s ++ Jvm.arrayLocs frame_1_arrays args s ++ Jvm.staticLocs frame_1_statics s) 16 128 → Post tb e args s (.returned v) u) :
    ArmFor flags0 classFile x code maxLocals ret World_1 tables_1 room_1 Calls_1 rest_1 Pre_1 Post := by
  intro l hfl _ _ p e ha hc hk s m args below hf hA hF happ hP
  obtain ⟨hcalls, hrest, hpre⟩ := hP
  obtain ⟨-, -, -, hnamed, -, -, -, hat⟩ := (Spec.applies_iff hf).mp happ
  obtain ⟨hg, hn⟩ := and_e (Cond.before_iff.mp (show (Jvm.Cond.and given_1 narrow_1).before args s = true from hpre))
  obtain ⟨g4, g5⟩ := and_e hg
  obtain ⟨w0, rfl⟩ : ∃ w0 : Value, args = #[w0] := by
    have hs : args.size = 1 := by simpa [Cond.value, given_1] using g4
    obtain ⟨L⟩ := args
    match L, hs with
    | [w0], _ => exact ⟨w0, rfl⟩
  have hw := fun d (hd : d ∈ tables_1) => atoms_spec (ws := Jvm.Cond.code x code maxLocals ret :: tables_1) hat d (List.mem_cons_of_mem _ hd)
  have hfit : Fit s := fun {y c} hc i hi => by
    obtain ⟨ha, rfl⟩ := Array.getElem?_eq_some_iff.mp hc
    have q := List.all_eq_true.mp ((Array.all_eq_true_iff_forall_mem.mp hF) _ (Array.getElem_mem ha)) i (List.mem_range.mpr hi)
    simpa [Array.getElem?_eq_getElem hi] using q
  obtain ⟨i0, ei0⟩ := is_v g5
  obtain rfl : w0 = (.int i0) := Option.some.inj ei0
  obtain ⟨mA, r1⟩ := and_e hn
  obtain ⟨mE, r2⟩ := and_e r1
  obtain ⟨mL, r3⟩ := and_e r2
  obtain ⟨x_STRING, s0a⟩ := and_e r3
  obtain ⟨m_STRING, s0b⟩ := and_e s0a
  obtain ⟨x_LONG, s1a⟩ := and_e s0b
  obtain ⟨m_LONG, s1b⟩ := and_e s1a
  obtain ⟨x_DOUBLE, s2a⟩ := and_e s1b
  obtain ⟨m_DOUBLE, s2b⟩ := and_e s2a
  obtain ⟨x_FLOAT, s3a⟩ := and_e s2b
  obtain ⟨m_FLOAT, s3b⟩ := and_e s3a
  obtain ⟨t_STRING, u1⟩ := and_e s3b
  obtain ⟨t_LONG, u2⟩ := and_e u1
  obtain ⟨t_DOUBLE, t_FLOAT⟩ := and_e u2
  obtain ⟨aV, evV⟩ := arr_v mA
  obtain ⟨cl, AV⟩ := Arr.start evV mA
  have EV := Exa.start evV mE
  have SV := Sta.start evV (Or.inr ⟨hw _ (List.mem_of_getElem? (i := 2) rfl), hw _ (List.mem_of_getElem? (i := 8) rfl)⟩)
  have FV := FitC.start hfit AV
  have hsz : cl.slots.size = 4 := own_len AV evV (own_int mL)
  obtain ⟨a_STRING, ev_STRING⟩ := exa_v x_STRING
  have S_STRING := Sta.start ev_STRING (Or.inr ⟨hw _ (List.mem_of_getElem? (i := 2) rfl), hw _ (List.mem_of_getElem? (i := 16) rfl)⟩)
  have F_STRING := Fld.start ((fld_at ev_STRING).symm.trans (own_int t_STRING))
  have at_STRING : cl.slots[0]? = some (.ref a_STRING) := (elem_in (own_eqR m_STRING ev_STRING) evV (Term.int_eval 0) AV.1).2
  obtain ⟨a_LONG, ev_LONG⟩ := exa_v x_LONG
  have S_LONG := Sta.start ev_LONG (Or.inr ⟨hw _ (List.mem_of_getElem? (i := 2) rfl), hw _ (List.mem_of_getElem? (i := 17) rfl)⟩)
  have F_LONG := Fld.start ((fld_at ev_LONG).symm.trans (own_int t_LONG))
  have at_LONG : cl.slots[1]? = some (.ref a_LONG) := (elem_in (own_eqR m_LONG ev_LONG) evV (Term.int_eval 1) AV.1).2
  obtain ⟨a_DOUBLE, ev_DOUBLE⟩ := exa_v x_DOUBLE
  have S_DOUBLE := Sta.start ev_DOUBLE (Or.inr ⟨hw _ (List.mem_of_getElem? (i := 2) rfl), hw _ (List.mem_of_getElem? (i := 18) rfl)⟩)
  have F_DOUBLE := Fld.start ((fld_at ev_DOUBLE).symm.trans (own_int t_DOUBLE))
  have at_DOUBLE : cl.slots[2]? = some (.ref a_DOUBLE) := (elem_in (own_eqR m_DOUBLE ev_DOUBLE) evV (Term.int_eval 2) AV.1).2
  obtain ⟨a_FLOAT, ev_FLOAT⟩ := exa_v x_FLOAT
  have S_FLOAT := Sta.start ev_FLOAT (Or.inr ⟨hw _ (List.mem_of_getElem? (i := 2) rfl), hw _ (List.mem_of_getElem? (i := 19) rfl)⟩)
  have F_FLOAT := Fld.start ((fld_at ev_FLOAT).symm.trans (own_int t_FLOAT))
  have at_FLOAT : cl.slots[3]? = some (.ref a_FLOAT) := (elem_in (own_eqR m_FLOAT ev_FLOAT) evV (Term.int_eval 3) AV.1).2
  have fin : MetFree l x (head1 (Jvm.Cond.code x code maxLocals ret :: tables_1) room_1) (fun a U => a = #[(.int i0)] ∧ s.Warmed39 U.vm ∧ U.heap = s.heap) (fun _ _ _ _ _ => True) (fun _ U o U' => ∃ v L, o = .returned v ∧ (v = some (.int (1 : Int32)) ∧ Fr s.heap.size L) ∧ FrameEnd U o U' L room_1.cells room_1.slots) := by
    by_cases k1 : (i0.toInt8.toInt32) = (1 : Int32)
    · exact rm_law_1 l s _ hw tables_1 i0 aV cl a_STRING a_LONG a_DOUBLE a_FLOAT s.heap s.heap.size (Nat.le_refl _) SV AV EV FV hsz at_STRING at_LONG at_DOUBLE at_FLOAT F_STRING F_LONG F_DOUBLE F_FLOAT S_STRING  k1 k1.symm
    · by_cases k2 : (i0.toInt8.toInt32) = (2 : Int32)
      · exact rm_law_2 l s _ hw tables_1 i0 aV cl a_STRING a_LONG a_DOUBLE a_FLOAT s.heap s.heap.size (Nat.le_refl _) SV AV EV FV hsz at_STRING at_LONG at_DOUBLE at_FLOAT F_STRING F_LONG F_DOUBLE F_FLOAT S_LONG k1 k2 k2.symm
      · by_cases k3 : (i0.toInt8.toInt32) = (3 : Int32)
        · exact rm_law_3 l s _ hw tables_1 i0 aV cl a_STRING a_LONG a_DOUBLE a_FLOAT s.heap s.heap.size (Nat.le_refl _) SV AV EV FV hsz at_STRING at_LONG at_DOUBLE at_FLOAT F_STRING F_LONG F_DOUBLE F_FLOAT S_DOUBLE k1 k2 k3 k3.symm
        · by_cases k4 : (i0.toInt8.toInt32) = (4 : Int32)
          · exact rm_law_4 l s _ hw tables_1 i0 aV cl a_STRING a_LONG a_DOUBLE a_FLOAT s.heap s.heap.size (Nat.le_refl _) SV AV EV FV hsz at_STRING at_LONG at_DOUBLE at_FLOAT F_STRING F_LONG F_DOUBLE F_FLOAT S_FLOAT k1 k2 k3 k4 k4.symm
          · exact rm_law_0 l s _ hw tables_1 i0 aV cl a_STRING a_LONG a_DOUBLE a_FLOAT s.heap s.heap.size (Nat.le_refl _) SV AV EV FV hsz at_STRING at_LONG at_DOUBLE at_FLOAT F_STRING F_LONG F_DOUBLE F_FLOAT k1 k2 k3 k4
  obtain ⟨n, o, h1, h2, h3, _, L, rfl, ⟨rfl, N⟩, hq⟩ := fin p e ha hc hk s m _ below hf ((Spec.applies_iff_loose hf).mp happ).1 ⟨rfl, State.Warmed39.refl s, rfl⟩ trivial
  refine ⟨n, _, h1, h2, h3, hpost _ _ _ _ _ _ ⟨Cond.after_iff.mpr rfl, Cond.after_iff.mpr (eq_i res_at (Term.int_eval (1)) rfl), trivial⟩ ⟨hq.1, hq.2.1, (hq.2.2.sift fun y hy => Or.inr (N y hy)).mono (by decide) (by decide)⟩⟩
theorem main_1_1 : Claimed_1_1 := comes_1 fun _ _ _ _ _ _ h hF => ⟨h.1, hF⟩
theorem main_1_2 : Claimed_1_2 := comes_1 fun _ _ _ _ _ _ h hF => ⟨h.2.1, hF⟩
end Jvm.Pilot.@@N@@
namespace Jvm.Pilot.@@N@@
open Jvm Jvm.ClassFile Sem Op Lib Jvm.Free Jvm.Stand Jvm.Pilot.@@N@@.Jvm.D
/-! MADE BY PROGRAM (witnessworld.py) out of the Statement's table words and the real class files: 13 classes; the members and pool entries that the words name. The judged class is class 1, her method 2. -/
namespace start1
open Jvm.ClassFile
def u (s : String) : CpInfo := .utf8 (stringToUtf16 s)
/-- a pool by its gaps: so many unusable entries, then the entry; so many at the end -/
def gap : Nat → List CpInfo → List CpInfo
  | 0, r => r
  | n + 1, r => .unusable :: gap n r
def poolList (es : List (Nat × CpInfo)) (last : Nat) : List CpInfo := es.foldr (fun e r => gap e.1 (e.2 :: r)) (gap last [])
def pool (es : List (Nat × CpInfo)) (last : Nat) : Array CpInfo := ⟨poolList es last⟩
def fileOf (pool : Array CpInfo) (this : Nat) (attrs : Array Attribute := #[]) (ms : Array MethodInfo := #[]) (fl : Nat := 33) (sup : Nat := 0) (ifs : Array Nat := #[]) (fds : Array FieldInfo := #[]) : ClassFile where
  minorVersion := 0
  majorVersion := 65
  constantPool := pool
  accessFlags := fl
  thisClass := this
  superClass := sup
  interfaces := ifs
  fields := fds
  methods := ms
  attributes := attrs
def plain (name : String) (sup : Option ClassId) : Class where
  name := name
  kind := .ordinary
  loader := none
  accessFlags := 33
  super := sup
  interfaces := #[]
  cf := none
  fields := #[]
  methods := #[]
  instanceTypes := #[]
  staticTypes := #[]
  resolved := #[]
  callSites := []
  init := .initialized
  statics := none
  mirror := none

def pool0 : Array CpInfo := pool [(5, u "<init>"), (0, u "()V"), (1, .class_ 10), (1, u "java/lang/Object"), (85, u "clone"), (0, u "()Ljava/lang/Object;")] 26

def k0m0 : Method := { name := "<init>", desc := "()V", sig := { parameters := [], returnType := none }, accessFlags := 1, code := none }
def k0m1 : Method := { name := "clone", desc := "()Ljava/lang/Object;", sig := { parameters := [], returnType := some (.object "java/lang/Object") }, accessFlags := 260, code := none }
/-- java/lang/Object -/
def k0 : Class := { plain "java/lang/Object" none with
  accessFlags := 33
  interfaces := #[]
  cf := some (fileOf pool0 8 #[] #[{ accessFlags := 1, nameIndex := 5, descriptorIndex := 6, attributes := #[] }, { accessFlags := 260, nameIndex := 96, descriptorIndex := 97, attributes := #[] }] 33 0 #[] #[])
  fields := #[]
  methods := #[k0m0, k0m1]
  instanceTypes := #[]
  staticTypes := #[]
  resolved := Array.replicate 124 none
  statics := none }

def pool1 : Array CpInfo := pool [(2, .class_ 4), (1, u "java/lang/Object"), (0, u "<init>"), (0, u "()V"), (0, .fieldref 8 9), (0, .class_ 10), (0, .nameAndType 11 12), (0, u "com/example/ashlar/ashlar/storage/ColumnType"), (0, u "STRING"), (0, u "Lcom/example/ashlar/ashlar/storage/ColumnType;"), (0, .fieldref 8 14), (0, .nameAndType 15 12), (0, u "LONG"), (0, .fieldref 8 17), (0, .nameAndType 18 12), (0, u "DOUBLE"), (0, .fieldref 8 20), (0, .nameAndType 21 12), (0, u "FLOAT"), (0, .methodref 8 23), (0, .nameAndType 24 25), (0, u "ofTag"), (0, u "(B)Lcom/example/ashlar/ashlar/storage/ColumnType;"), (0, .methodref 27 28), (0, .class_ 29), (0, .nameAndType 30 25), (0, u "com/example/ashlar/ashlar/storage/ColumnTypeOfTagPinLaw"), (0, u "expected"), (0, .fieldref 8 32), (0, .nameAndType 33 34), (0, u "tag"), (0, u "B"), (3, u "law"), (0, u "(I)Z")] 2

def k1m0 : Method := { name := "<init>", desc := "()V", sig := { parameters := [], returnType := none }, accessFlags := 2, code := none }
def k1c1 : Code := { maxStack := 2, maxLocals := 1, code := method_2_code, exceptionTable := #[], attributes := #[] }
def k1m1 : Method := { name := "expected", desc := "(B)Lcom/example/ashlar/ashlar/storage/ColumnType;", sig := { parameters := [.byte], returnType := some (.object "com/example/ashlar/ashlar/storage/ColumnType") }, accessFlags := 10, code := some k1c1 }
def k1c2 : Code := { maxStack := 2, maxLocals := 4, code := code, exceptionTable := #[], attributes := #[] }
def k1m2 : Method := { name := "law", desc := "(I)Z", sig := { parameters := [.int], returnType := some .boolean }, accessFlags := 9, code := some k1c2 }
/-- com/example/ashlar/ashlar/storage/ColumnTypeOfTagPinLaw -/
def k1 : Class := { plain "com/example/ashlar/ashlar/storage/ColumnTypeOfTagPinLaw" (some 0) with
  accessFlags := 49
  interfaces := #[]
  cf := some (fileOf pool1 27 #[] #[{ accessFlags := 2, nameIndex := 5, descriptorIndex := 6, attributes := #[] }, { accessFlags := 10, nameIndex := 30, descriptorIndex := 25, attributes := #[] }, { accessFlags := 9, nameIndex := 38, descriptorIndex := 39, attributes := #[] }] 49 2 #[] #[])
  fields := #[]
  methods := #[k1m0, k1m1, k1m2]
  instanceTypes := #[]
  staticTypes := #[]
  resolved := Array.replicate 42 none
  statics := none }

def pool2 : Array CpInfo := pool [(1, .class_ 2), (0, u "java/lang/constant/Constable"), (0, .class_ 4), (0, u "java/lang/Object")] 6

/-- java/lang/constant/Constable -/
def k2 : Class := { plain "java/lang/constant/Constable" (some 0) with
  accessFlags := 1537
  interfaces := #[]
  cf := some (fileOf pool2 1 #[] #[] 1537 3 #[] #[])
  fields := #[]
  methods := #[]
  instanceTypes := #[]
  staticTypes := #[]
  resolved := Array.replicate 11 none
  statics := none }

def pool3 : Array CpInfo := pool [(1, .class_ 2), (0, u "java/lang/Comparable"), (0, .class_ 4), (0, u "java/lang/Object")] 7

/-- java/lang/Comparable -/
def k3 : Class := { plain "java/lang/Comparable" (some 0) with
  accessFlags := 1537
  interfaces := #[]
  cf := some (fileOf pool3 1 #[] #[] 1537 3 #[] #[])
  fields := #[]
  methods := #[]
  instanceTypes := #[]
  staticTypes := #[]
  resolved := Array.replicate 12 none
  statics := none }

def pool4 : Array CpInfo := pool [(1, .class_ 2), (0, u "java/io/Serializable"), (0, .class_ 4), (0, u "java/lang/Object")] 2

/-- java/io/Serializable -/
def k4 : Class := { plain "java/io/Serializable" (some 0) with
  accessFlags := 1537
  interfaces := #[]
  cf := some (fileOf pool4 1 #[] #[] 1537 3 #[] #[])
  fields := #[]
  methods := #[]
  instanceTypes := #[]
  staticTypes := #[]
  resolved := Array.replicate 7 none
  statics := none }

def pool5 : Array CpInfo := pool [(2, .class_ 4), (1, u "java/lang/Enum"), (0, u "name"), (0, u "Ljava/lang/String;"), (2, u "ordinal"), (0, u "I"), (1, .class_ 14), (1, u "java/lang/Object"), (4, u "hash"), (86, .class_ 108), (1, u "java/lang/Enum$EnumDesc"), (2, .class_ 112), (0, u "java/lang/constant/Constable"), (0, .class_ 114), (0, u "java/lang/Comparable"), (0, .class_ 116), (0, u "java/io/Serializable")] 87

/-- java/lang/Enum -/
def k5 : Class := { plain "java/lang/Enum" (some 0) with
  accessFlags := 1057
  interfaces := #[2, 3, 4]
  cf := some (fileOf pool5 2 #[.nestMembers #[106]] #[] 1057 12 #[111, 113, 115] #[{ accessFlags := 18, nameIndex := 5, descriptorIndex := 6, attributes := #[] }, { accessFlags := 18, nameIndex := 9, descriptorIndex := 10, attributes := #[] }, { accessFlags := 2, nameIndex := 19, descriptorIndex := 10, attributes := #[] }])
  fields := #[{ name := "name", type := (.object "java/lang/String"), accessFlags := 18, slot := 0, constantValue := 0 }, { name := "ordinal", type := .int, accessFlags := 18, slot := 1, constantValue := 0 }, { name := "hash", type := .int, accessFlags := 2, slot := 2, constantValue := 0 }]
  methods := #[]
  instanceTypes := #[(.object "java/lang/String"), .int, .int]
  staticTypes := #[]
  resolved := Array.replicate 204 none
  statics := none }

def pool6 : Array CpInfo := pool [(1, .class_ 2), (0, u "com/example/ashlar/ashlar/storage/ColumnType"), (2, u "STRING"), (0, u "Lcom/example/ashlar/ashlar/storage/ColumnType;"), (2, u "LONG"), (2, u "DOUBLE"), (2, u "FLOAT"), (0, .fieldref 1 17), (0, .nameAndType 18 19), (0, u "$VALUES"), (0, u "[Lcom/example/ashlar/ashlar/storage/ColumnType;"), (0, .methodref 21 22), (0, .class_ 19), (0, .nameAndType 23 24), (0, u "clone"), (0, u "()Ljava/lang/Object;"), (1, .class_ 28), (1, u "java/lang/Enum"), (6, .fieldref 1 36), (0, .nameAndType 37 38), (0, u "tag"), (0, u "B"), (16, .methodref 1 56), (0, .nameAndType 57 58), (0, u "values"), (0, u "()[Lcom/example/ashlar/ashlar/storage/ColumnType;"), (17, u "ofTag"), (0, u "(B)Lcom/example/ashlar/ashlar/storage/ColumnType;")] 6

def k6c0 : Code := { maxStack := 1, maxLocals := 0, code := prog_13_method_1_code, exceptionTable := #[], attributes := #[] }
def k6m0 : Method := { name := "values", desc := "()[Lcom/example/ashlar/ashlar/storage/ColumnType;", sig := { parameters := [], returnType := some (.array (.object "com/example/ashlar/ashlar/storage/ColumnType")) }, accessFlags := 9, code := some k6c0 }
def k6c1 : Code := { maxStack := 2, maxLocals := 5, code := prog_13_method_5_code, exceptionTable := #[], attributes := #[] }
def k6m1 : Method := { name := "ofTag", desc := "(B)Lcom/example/ashlar/ashlar/storage/ColumnType;", sig := { parameters := [.byte], returnType := some (.object "com/example/ashlar/ashlar/storage/ColumnType") }, accessFlags := 8, code := some k6c1 }
/-- com/example/ashlar/ashlar/storage/ColumnType -/
def k6 : Class := { plain "com/example/ashlar/ashlar/storage/ColumnType" (some 5) with
  accessFlags := 16433
  interfaces := #[]
  cf := some (fileOf pool6 1 #[] #[{ accessFlags := 9, nameIndex := 57, descriptorIndex := 58, attributes := #[] }, { accessFlags := 8, nameIndex := 76, descriptorIndex := 77, attributes := #[] }] 16433 26 #[] #[{ accessFlags := 16409, nameIndex := 5, descriptorIndex := 6, attributes := #[] }, { accessFlags := 16409, nameIndex := 9, descriptorIndex := 6, attributes := #[] }, { accessFlags := 16409, nameIndex := 12, descriptorIndex := 6, attributes := #[] }, { accessFlags := 16409, nameIndex := 15, descriptorIndex := 6, attributes := #[] }, { accessFlags := 16, nameIndex := 37, descriptorIndex := 38, attributes := #[] }, { accessFlags := 4122, nameIndex := 18, descriptorIndex := 19, attributes := #[] }])
  fields := #[{ name := "STRING", type := (.object "com/example/ashlar/ashlar/storage/ColumnType"), accessFlags := 16409, slot := 0, constantValue := 0 }, { name := "LONG", type := (.object "com/example/ashlar/ashlar/storage/ColumnType"), accessFlags := 16409, slot := 1, constantValue := 0 }, { name := "DOUBLE", type := (.object "com/example/ashlar/ashlar/storage/ColumnType"), accessFlags := 16409, slot := 2, constantValue := 0 }, { name := "FLOAT", type := (.object "com/example/ashlar/ashlar/storage/ColumnType"), accessFlags := 16409, slot := 3, constantValue := 0 }, { name := "tag", type := .byte, accessFlags := 16, slot := 3, constantValue := 0 }, { name := "$VALUES", type := (.array (.object "com/example/ashlar/ashlar/storage/ColumnType")), accessFlags := 4122, slot := 4, constantValue := 0 }]
  methods := #[k6m0, k6m1]
  instanceTypes := #[(.object "java/lang/String"), .int, .int, .byte]
  staticTypes := #[(.object "com/example/ashlar/ashlar/storage/ColumnType"), (.object "com/example/ashlar/ashlar/storage/ColumnType"), (.object "com/example/ashlar/ashlar/storage/ColumnType"), (.object "com/example/ashlar/ashlar/storage/ColumnType"), (.array (.object "com/example/ashlar/ashlar/storage/ColumnType"))]
  resolved := Array.replicate 84 none
  statics := some 0 }

def pool7 : Array CpInfo := pool [(1, .class_ 2), (0, u "java/lang/Cloneable"), (0, .class_ 4), (0, u "java/lang/Object")] 2

/-- java/lang/Cloneable -/
def k7 : Class := { plain "java/lang/Cloneable" (some 0) with
  accessFlags := 1537
  interfaces := #[]
  cf := some (fileOf pool7 1 #[] #[] 1537 3 #[] #[])
  fields := #[]
  methods := #[]
  instanceTypes := #[]
  staticTypes := #[]
  resolved := Array.replicate 7 none
  statics := none }

/-- the primitive byte -/
def k8 : Class := { plain "byte" none with kind := .primitive 'B', accessFlags := 0x411 }
/-- [B -/
def k9 : Class := { plain "[B" (some 0) with kind := .array 8 .byte, interfaces := #[7, 4], accessFlags := 1041 }

/-- the primitive int -/
def k10 : Class := { plain "int" none with kind := .primitive 'I', accessFlags := 0x411 }
/-- [I -/
def k11 : Class := { plain "[I" (some 0) with kind := .array 10 .int, interfaces := #[7, 4], accessFlags := 1041 }

/-- [Lcom/example/ashlar/ashlar/storage/ColumnType; -/
def k12 : Class := { plain "[Lcom/example/ashlar/ashlar/storage/ColumnType;" (some 0) with kind := .array 6 (.object "com/example/ashlar/ashlar/storage/ColumnType"), interfaces := #[7, 4], accessFlags := 1041 }

def heap : Heap := #[{ cls := 6, slots := #[.ref 2, .ref 3, .ref 4, .ref 5, .ref 1], vm := .statics 6 },
  { cls := 12, slots := #[.ref 2, .ref 3, .ref 4, .ref 5], vm := .none },
  { cls := 6, slots := #[.null, .int 0, .int 0, .int 1], vm := .none },
  { cls := 6, slots := #[.null, .int 1, .int 0, .int 2], vm := .none },
  { cls := 6, slots := #[.null, .int 2, .int 0, .int 3], vm := .none },
  { cls := 6, slots := #[.null, .int 3, .int 0, .int 4], vm := .none }]
def classes : Array Class := #[k0, k1, k2, k3, k4, k5, k6, k7, k8, k9, k10, k11, k12]
def interned : List (Array UInt16 × Addr) := []
def slotsUsed : Nat := 25
def theMethod : MethodId := ⟨1, 2⟩
def args0 : Array Value := #[.int 5]
def aboutOver (below : List Frame) : State where
  vm := { classes := classes, interned := interned.toArray }
  heap := heap
  slotsUsed := slotsUsed
  threads := #[{ frames := .invoking theMethod args0 :: below }]
def below0 : List Frame := [.native { method := ⟨0, 0⟩, args := #[] }]
def about1 : State := aboutOver below0
def p0 : Program := .bare "" "" ""
def e0 : Env := launch0.env 0 0 0
theorem w_frames : about1.frames = Frame.invoking theMethod args0 :: below0 := rfl
set_option maxRecDepth 65536 in
theorem w_args : argsFit about1.vm theMethod args0 = true := by decide +kernel
set_option maxRecDepth 65536 in
theorem w_heap : heapFits about1 = true := by decide +kernel
set_option maxRecDepth 65536 in
theorem w_runnable : about1.curStatus? = some .runnable := by decide +kernel
set_option maxRecDepth 65536 in
theorem w_alone : about1.alone = true := by decide +kernel
set_option maxRecDepth 65536 in
theorem w_named : about1.methodNamed? x = some theMethod := by decide +kernel
set_option maxRecDepth 65536 in
theorem w_hears : about1.hears theMethod below0 = true := by decide +kernel
set_option maxRecDepth 65536 in
theorem w_ripe : about1.ripe theMethod args0 below0 = true := by decide +kernel
theorem w_running : about1.status = .running := rfl
set_option maxRecDepth 65536 in
theorem w_room : about1.hasRoom e0.platform room_1 = true :=
  launch0.hasRoom_least _ room_1 (by decide +kernel) (by decide +kernel) (by decide +kernel) (by decide +kernel) (by decide +kernel) (by decide +kernel)
theorem allAtoms_all (ts : List Jvm.Cond) (a : Array Jvm.Value) (st : Jvm.State) : (allAtoms ts).before a st = ts.all (fun c => c.before a st) := by
  induction ts with
  | nil => rfl
  | cons c t ih =>
    show (Jvm.Cond.and c (allAtoms t)).before a st = _
    rw [Jvm.Cond.before_and, ih, List.all_cons]
def words1 : List Jvm.Cond := Jvm.Cond.code x code maxLocals ret :: tables_1
/-- a 'code' word, met by the world's own term for the bytes: nothing is compared byte by byte -/
theorem code_word {y : MethodName} {bytes : ByteArray} {mx : Nat} {rt : Option FieldType} {a : Array Value} {s : State} {m : MethodId} {meth : Method} {c : Code} (h1 : s.methodNamed? y = some m) (h2 : s.vm.method? m = some meth) (h3 : meth.code = some c) (h4 : c.code = bytes)
    (h5 : (c.maxLocals == mx && c.exceptionTable.isEmpty && decide (c.maxStack ≤ mostOperands) && decide (meth.sig.returnType = rt) && !meth.locks && decide (parseMethodDescriptor y.desc = some meth.sig)) = true) : (Jvm.Cond.code y bytes mx rt).before a s = true := by
  simp only [Bool.and_eq_true, beq_iff_eq, Bool.not_eq_true', decide_eq_true_eq] at h5
  obtain ⟨⟨⟨⟨⟨g1, g2⟩, g3⟩, g4⟩, g5⟩, g6⟩ := h5
  simp [Cond.before, Cond.holds, Cond.value, h1, h2, h3, h4, g1, g2, g3, g4, g5, g6]
def isCode : Jvm.Cond → Bool
  | .code _ _ _ _ => true
  | _ => false
theorem all_split {L : List Jvm.Cond} {P : Jvm.Cond → Bool} (h1 : L.all (fun c => isCode c || P c) = true) (h2 : ∀ c ∈ L.filter isCode, P c = true) : L.all P = true := by
  refine List.all_eq_true.mpr fun c hc => ?_
  have h := List.all_eq_true.mp h1 c hc
  rcases Bool.eq_false_or_eq_true (isCode c) with hi | hi
  · exact h2 c (List.mem_filter.mpr ⟨hc, hi⟩)
  · simpa [hi] using h
set_option maxRecDepth 65536 in
theorem w_c0 : (Jvm.Cond.code x code maxLocals ret).before args0 about1 = true := code_word (m := ⟨1, 2⟩) (meth := k1m2) (c := k1c2) (by decide +kernel) rfl rfl rfl (by decide +kernel)
set_option maxRecDepth 65536 in
theorem w_c1 : (Jvm.Cond.code ({ cls := "com/example/ashlar/ashlar/storage/ColumnType", name := "ofTag", desc := "(B)Lcom/example/ashlar/ashlar/storage/ColumnType;" } : Jvm.MethodName) prog_13_method_5_code (5 : Nat) (Option.some (Jvm.ClassFile.FieldType.object "com/example/ashlar/ashlar/storage/ColumnType"))).before args0 about1 = true := code_word (m := ⟨6, 1⟩) (meth := k6m1) (c := k6c1) (by decide +kernel) rfl rfl rfl (by decide +kernel)
set_option maxRecDepth 65536 in
theorem w_c2 : (Jvm.Cond.code ({ cls := "com/example/ashlar/ashlar/storage/ColumnType", name := "values", desc := "()[Lcom/example/ashlar/ashlar/storage/ColumnType;" } : Jvm.MethodName) prog_13_method_1_code (0 : Nat) (Option.some (Jvm.ClassFile.FieldType.array (Jvm.ClassFile.FieldType.object "com/example/ashlar/ashlar/storage/ColumnType")))).before args0 about1 = true := code_word (m := ⟨6, 0⟩) (meth := k6m0) (c := k6c0) (by decide +kernel) rfl rfl rfl (by decide +kernel)
set_option maxRecDepth 65536 in
theorem w_c3 : (Jvm.Cond.code ({ cls := "com/example/ashlar/ashlar/storage/ColumnTypeOfTagPinLaw", name := "expected", desc := "(B)Lcom/example/ashlar/ashlar/storage/ColumnType;" } : Jvm.MethodName) method_2_code (1 : Nat) (Option.some (Jvm.ClassFile.FieldType.object "com/example/ashlar/ashlar/storage/ColumnType"))).before args0 about1 = true := code_word (m := ⟨1, 1⟩) (meth := k1m1) (c := k1c1) (by decide +kernel) rfl rfl rfl (by decide +kernel)
def codes1 : List Jvm.Cond := [Jvm.Cond.code x code maxLocals ret, Jvm.Cond.code ({ cls := "com/example/ashlar/ashlar/storage/ColumnType", name := "ofTag", desc := "(B)Lcom/example/ashlar/ashlar/storage/ColumnType;" } : Jvm.MethodName) prog_13_method_5_code (5 : Nat) (Option.some (Jvm.ClassFile.FieldType.object "com/example/ashlar/ashlar/storage/ColumnType")), Jvm.Cond.code ({ cls := "com/example/ashlar/ashlar/storage/ColumnType", name := "values", desc := "()[Lcom/example/ashlar/ashlar/storage/ColumnType;" } : Jvm.MethodName) prog_13_method_1_code (0 : Nat) (Option.some (Jvm.ClassFile.FieldType.array (Jvm.ClassFile.FieldType.object "com/example/ashlar/ashlar/storage/ColumnType"))), Jvm.Cond.code ({ cls := "com/example/ashlar/ashlar/storage/ColumnTypeOfTagPinLaw", name := "expected", desc := "(B)Lcom/example/ashlar/ashlar/storage/ColumnType;" } : Jvm.MethodName) method_2_code (1 : Nat) (Option.some (Jvm.ClassFile.FieldType.object "com/example/ashlar/ashlar/storage/ColumnType"))]
set_option maxRecDepth 65536 in
theorem codes_eq : words1.filter isCode = codes1 := rfl
theorem w_codes : ∀ c ∈ words1.filter isCode, c.before args0 about1 = true := by
  rw [codes_eq]
  intro c hc
  simp only [codes1, List.mem_cons, List.not_mem_nil, or_false] at hc
  rcases hc with rfl | rfl | rfl | rfl
  · exact w_c0
  · exact w_c1
  · exact w_c2
  · exact w_c3
set_option maxRecDepth 65536 in
theorem w_t1 : (words1.take 24).all (fun c => isCode c || c.before args0 about1) = true := by decide +kernel
set_option maxRecDepth 65536 in
theorem w_t2 : (words1.drop 24).all (fun c => isCode c || c.before args0 about1) = true := by decide +kernel
theorem w_tables : (allAtoms (Jvm.Cond.code x code maxLocals ret :: tables_1)).before args0 about1 = true := by
  rw [allAtoms_all]
  show words1.all (fun c => c.before args0 about1) = true
  refine all_split ?_ w_codes
  rw [← List.take_append_drop 24 words1, List.all_append, w_t1, w_t2]
  rfl
set_option maxRecDepth 65536 in
theorem w_case : (Jvm.Cond.and given_1 narrow_1).before args0 about1 = true := by decide +kernel
theorem w_applies : (headSpec (Jvm.Cond.code x code maxLocals ret :: tables_1) room_1).applies x e0.platform about1 = true :=
  (Spec.applies_iff w_frames).mpr ⟨w_running, w_runnable, w_alone, w_named, w_hears, w_ripe, w_room, w_tables⟩
theorem atStart : AtStart classFile x code maxLocals ret World_1 tables_1 room_1 Calls_1 rest_1 Pre_1 launch0 p0 e0 about1 theMethod args0 below0 :=
  ⟨lists_1, trivial, launch0.admits_env _ _ _, launch0.least_env, fairChoices_fair.cas, fairChoices_fair.clock, w_frames, w_args, w_heap, w_applies, trivial, trivial, w_case⟩
end start1
theorem witness_1 : WitnessClaimed_1 := ⟨start1.p0, start1.e0, start1.about1, start1.theMethod, start1.args0, start1.below0, start1.atStart⟩
end Jvm.Pilot.@@N@@
