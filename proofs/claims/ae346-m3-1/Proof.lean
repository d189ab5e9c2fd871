import JvmDerived
import JvmDerived.Pilot.@@N@@Statement
import JvmDerived.Pilot.@@N@@Code
set_option linter.unusedVariables false
set_option linter.unusedSimpArgs false
namespace Jvm.RoadKit
open Sem ClassFile Op Lib Jvm.Stand Jvm.Free Jvm.LawKit
section New
variable {p : Program} {l : Launch} {e : Env} {R : Room} {s : State} {m : MethodId} {args : Array Value} {below : List Frame} {meth : Method} {c : Code} {T : State} {locs : List Loc} {cells slots : Nat}
theorem retI (X : Stand p l e R s m args below meth c T locs cells slots) (hx : p.tables.exec = Jvm.exec) {pc : Nat} {Ls : Array Slot} {z : Int32} {rest : List Value} (hret : meth.sig.returnType = some .int) (hd : decode c.code pc = .ok (.ireturn, 1)) {fs : List Frame}
    (hl : ∀ (f : JFrame) (acts : List Action), f.method = m → f.locked = none → f.entered = [] → (doReturn e (T.setTop f) acts (some (.int z))).1 = T.setFrames fs) : Steps p.tables e below (T.setTop (mkF m pc Ls (.int z :: rest))) (T.setFrames fs) := by
  have hm' : T.vm.method? m = some meth := X.method'
  have hn : narrow .int (.int z) = .int z := rfl
  show Steps p.tables e below (T.setTop { method := m, pc := pc, locals := Ls, stack := _ :: rest, locked := none }) _
  jvm_step X.here [X.here.top, hx, hd, hm', hret, hn]
  first | (intro acts; rw [hl _ acts rfl rfl rfl]) | rw [hl _ _ rfl rfl rfl]
  exact Steps.refl _
abbrev vI (x : Int32) : Slot := .val (.int x)
abbrev vJ (x : Int64) : Slot := .val (.long x)
abbrev vR (x : Addr) : Slot := .val (.ref x)
abbrev iI (x : Int32) : Value := .int x
abbrev iJ (x : Int64) : Value := .long x
abbrev iR (x : Addr) : Value := .ref x
/-- from one frame to another over the same heap -/
def own_Mid (X : Stand p l e R s m args below meth c T locs cells slots) (h : Heap) (F F' : JFrame) : Prop :=
  ∃ T', Stand p l e R s m args below meth c T' locs cells slots ∧ T'.heap = h ∧ ∀ t, Steps p.tables e below (T'.setTop F') t → Steps p.tables e below (T.setTop F) t
end New
end Jvm.RoadKit
namespace Jvm.Pilot.@@N@@
open Jvm Jvm.ClassFile Sem Op Lib Jvm.Free Jvm.Stand Jvm.LawKit Jvm.RoadKit Bundle Jvm.Pilot.@@N@@.Jvm.D
theorem pd_0 : parseMethodDescriptor "(I)Lcom/example/columngen/columngen/workload/Cardinality;" = some ⟨[.int], some (.object "com/example/columngen/columngen/workload/Cardinality")⟩ := by decide +kernel
theorem pd_1 : parseMethodDescriptor "(Z)Z" = some ⟨[.boolean], some .boolean⟩ := by decide +kernel

theorem own_fldEq {s : State} {args : Array Value} {t : Term} {a : Addr} {C n d : String} {k : Int32} (ht : t.eval args s none [] s = some (.ref a)) (h : (Jvm.Cond.eq (Term.field t C n d) (Term.int k)).value args s none s [] = some true) : Fld s s.heap a C n d (.int k) := by
  obtain ⟨x, y, e1, e2, -, -⟩ := cmp_v (Or.inl h)
  have e3 : (Term.int k).eval args s none [] s = some (.int k) := Term.int_eval k
  obtain rfl : y = .int k := Option.some.inj (e2.symm.trans e3)
  have hx : x = .int k := by
    simp only [Cond.value, e1, e2] at h
    cases x <;> simp at h
    rw [h]
  subst hx
  exact Fld.start ((fld_at ht).symm.trans e1)

theorem own_small4 (v : Int32) (h0 : 0 ≤ v.toInt) (h1 : v.toInt < 4) : v = 0 ∨ v = 1 ∨ v = 2 ∨ v = 3 := by
  have h : v.toInt = 0 ∨ v.toInt = 1 ∨ v.toInt = 2 ∨ v.toInt = 3 := by omega
  rcases h with h | h | h | h
  · exact Or.inl (Int32.toInt_inj.mp (h.trans (by decide)))
  · exact Or.inr (Or.inl (Int32.toInt_inj.mp (h.trans (by decide))))
  · exact Or.inr (Or.inr (Or.inl (Int32.toInt_inj.mp (h.trans (by decide)))))
  · exact Or.inr (Or.inr (Or.inr ((Int32.toInt_inj.mp (h.trans (by decide))))))

theorem own_small2 (v : Int32) (h0 : 0 ≤ v.toInt) (h1 : v.toInt < 2) : v = 0 ∨ v = 1 := by
  have h : v.toInt = 0 ∨ v.toInt = 1 := by omega
  rcases h with h | h
  · exact Or.inl (Int32.toInt_inj.mp (h.trans (by decide)))
  · exact Or.inr ((Int32.toInt_inj.mp (h.trans (by decide))))

theorem d1_0 : decode method_2_code 0 = .ok (.iload_n 0, 1) := by decide +kernel
theorem d1_1 : decode method_2_code 1 = .ok (.ifCond .ne 7, 3) := by decide +kernel
theorem d1_4 : decode method_2_code 4 = .ok (.getstatic 7, 3) := by decide +kernel
theorem d1_7 : decode method_2_code 7 = .ok (.areturn, 1) := by decide +kernel
theorem pn_0 : plainName "com/example/columngen/columngen/workload/CardinalityToManyPinLaw" = true := by first | (simp [plainName, overriddenIn]; done) | decide +kernel
theorem ef_1_0 (m : MethodId)  : entryFrame m #[(.int (0 : Int32))] 1 = mkF m 0 #[.val (.int (0 : Int32))] [] := by first | (simp [entryFrame, mkF, argsToLocals, Value.category]; done) | rfl
def Q1_0 (Z : State) (s_ONE_TO_ONE : Addr) (s_MANY_TO_ONE : Addr) (s_ONE_TO_MANY : Addr) (s_MANY_TO_MANY : Addr) (h0 : Heap) (v : Option Value) (h : Heap) (L : List Loc) : Prop := v = some (.ref s_ONE_TO_ONE) ∧ L = [] ∧ h = h0
set_option maxRecDepth 65536 in
set_option maxHeartbeats 40000000 in
theorem rm1_0 (l : Launch) (Z : State) (a0 : Array Value) (hw : ∀ d ∈ tables_1, d.before a0 Z = true) (ws : List Jvm.Cond) (s_ONE_TO_ONE : Addr) (s_MANY_TO_ONE : Addr) (s_ONE_TO_MANY : Addr) (s_MANY_TO_MANY : Addr) (h0 : Heap) (S_ONE_TO_ONE : Sta Z h0 "com/example/columngen/columngen/workload/Cardinality" "ONE_TO_ONE" "Lcom/example/columngen/columngen/workload/Cardinality;" (.ref s_ONE_TO_ONE)) (E_ONE_TO_ONE : Exa Z h0 s_ONE_TO_ONE "com/example/columngen/columngen/workload/Cardinality") (F_manyOfTarget_ONE_TO_ONE : Fld Z h0 s_ONE_TO_ONE "com/example/columngen/columngen/workload/Cardinality" "manyOfTarget" "Z" (.int (0 : Int32))) (S_MANY_TO_ONE : Sta Z h0 "com/example/columngen/columngen/workload/Cardinality" "MANY_TO_ONE" "Lcom/example/columngen/columngen/workload/Cardinality;" (.ref s_MANY_TO_ONE)) (E_MANY_TO_ONE : Exa Z h0 s_MANY_TO_ONE "com/example/columngen/columngen/workload/Cardinality") (F_manyOfTarget_MANY_TO_ONE : Fld Z h0 s_MANY_TO_ONE "com/example/columngen/columngen/workload/Cardinality" "manyOfTarget" "Z" (.int (0 : Int32))) (F_manyOfSource_ONE_TO_ONE : Fld Z h0 s_ONE_TO_ONE "com/example/columngen/columngen/workload/Cardinality" "manyOfSource" "Z" (.int (0 : Int32))) (S_ONE_TO_MANY : Sta Z h0 "com/example/columngen/columngen/workload/Cardinality" "ONE_TO_MANY" "Lcom/example/columngen/columngen/workload/Cardinality;" (.ref s_ONE_TO_MANY)) (E_ONE_TO_MANY : Exa Z h0 s_ONE_TO_MANY "com/example/columngen/columngen/workload/Cardinality") (F_manyOfTarget_ONE_TO_MANY : Fld Z h0 s_ONE_TO_MANY "com/example/columngen/columngen/workload/Cardinality" "manyOfTarget" "Z" (.int (1 : Int32))) (F_manyOfSource_MANY_TO_ONE : Fld Z h0 s_MANY_TO_ONE "com/example/columngen/columngen/workload/Cardinality" "manyOfSource" "Z" (.int (1 : Int32))) (S_MANY_TO_MANY : Sta Z h0 "com/example/columngen/columngen/workload/Cardinality" "MANY_TO_MANY" "Lcom/example/columngen/columngen/workload/Cardinality;" (.ref s_MANY_TO_MANY)) (E_MANY_TO_MANY : Exa Z h0 s_MANY_TO_MANY "com/example/columngen/columngen/workload/Cardinality") (F_manyOfSource_MANY_TO_MANY : Fld Z h0 s_MANY_TO_MANY "com/example/columngen/columngen/workload/Cardinality" "manyOfSource" "Z" (.int (1 : Int32))) (F_manyOfTarget_MANY_TO_MANY : Fld Z h0 s_MANY_TO_MANY "com/example/columngen/columngen/workload/Cardinality" "manyOfTarget" "Z" (.int (1 : Int32))) (F_manyOfSource_ONE_TO_MANY : Fld Z h0 s_ONE_TO_MANY "com/example/columngen/columngen/workload/Cardinality" "manyOfSource" "Z" (.int (0 : Int32))) :
    MetFree l (⟨"com/example/columngen/columngen/workload/CardinalityToManyPinLaw", "pick", "(I)Lcom/example/columngen/columngen/workload/Cardinality;"⟩ : MethodName) (head1 (Jvm.Cond.code (⟨"com/example/columngen/columngen/workload/CardinalityToManyPinLaw", "pick", "(I)Lcom/example/columngen/columngen/workload/Cardinality;"⟩ : MethodName) method_2_code 1 (some (.object "com/example/columngen/columngen/workload/Cardinality")) :: ws) ({ frames := 0, cells := 0, slots := 0, locals := 0 } : Room)) (fun a U => a = #[(.int (0 : Int32))] ∧ Z.Warmed39 U.vm ∧ U.heap = h0) (fun _ _ _ _ _ => True) (fun _ U o U' => ∃ v L, o = .returned v ∧ Q1_0 Z s_ONE_TO_ONE s_MANY_TO_ONE s_ONE_TO_MANY s_MANY_TO_MANY h0 v U'.heap L ∧ FrameEnd U o U' L ({ frames := 0, cells := 0, slots := 0, locals := 0 } : Room).cells ({ frames := 0, cells := 0, slots := 0, locals := 0 } : Room).slots) := by
  refine MetFree.of_bodySF (plainFor_of_name pn_0) hisR ?_
  intro p e s m args below meth c s₁ Bd hml0 hP hK
  obtain ⟨rfl, hZ, hh⟩ := hP
  have hx := Bd.exec
  have hby := Bd.bytes
  have hml : c.maxLocals = 1 := hml0
  have hown : s.vm.findClass "com/example/columngen/columngen/workload/CardinalityToManyPinLaw" = some m.cls := findClass_of_methodNamed Bd.named
  have hnm := (name_of_methodNamed Bd.named Bd.method).1
  have X0 : Stand p l e ({ frames := 0, cells := 0, slots := 0, locals := 0 } : Room) s m #[(.int (0 : Int32))] below meth c s₁ [] 0 0 := Stand.of_body Bd
  have e0 : s₁.heap = h0 := by rw [← hh, Bd.state]; rfl
  have pre0 : ∀ t, Steps p.tables e below (s₁.setTop (mkF m 0 #[.val (.int (0 : Int32))] [])) t → Steps p.tables e below (s₁.setTop (entryFrame m #[(.int (0 : Int32))] 1)) t := fun t k => castTop (ef_1_0 m ) k
  obtain ⟨T1, X1, e1, st1⟩ := getS2 X0 hx hZ hown (host := "") (Or.inl (hw _ (List.mem_of_getElem? (i := 4) rfl))) Via.refl e0 S_ONE_TO_ONE (g := (mkF m 4 #[vI 0] [])) rfl (hb hby d1_4)
  obtain ⟨fs, hr, hrun, hended, hW, hsame⟩ := X1.leave (v := some (.ref s_ONE_TO_ONE)) (fun h => by rw [Bd.returns] at h; cases h)
  refine ⟨_, _, pre0 _ ?_, hrun, hended, _, _, rfl, ?_, ⟨_, rfl⟩, hW, hsame.mono (by decide) (by decide)⟩
  · show Steps _ _ _ (s₁.setTop (mkF m 0 #[vI 0] [])) _
    refine XS.iloadN X0.here hx rfl (hb hby d1_0) rfl ?_
    show Steps _ _ _ (s₁.setTop (mkF m 1 #[vI 0] [iI 0])) _
    refine XS.ifNo X0.here hx rfl (hb hby d1_1) rfl ((if0 _ _).trans (teq (by decide : (0 : Int32) = (0 : Int32))).2) ?_
    show Steps _ _ _ (s₁.setTop (mkF m 4 #[vI 0] [])) _
    refine st1 _ ?_
    show Steps _ _ _ (T1.setTop (mkF m 7 #[vI 0] [iR s_ONE_TO_ONE])) _
    jvm_step X1.here [X1.here.top, hx, (hb hby d1_7), X1.method', Bd.returns, Value.isRef, FieldType.isReference]
    first | (intro acts; rw [hr _ acts rfl rfl rfl]) | rw [hr _ _ rfl rfl rfl]
    exact Steps.refl _
  · show Q1_0 Z s_ONE_TO_ONE s_MANY_TO_ONE s_ONE_TO_MANY s_MANY_TO_MANY h0 _ T1.heap _
    rw [e1]
    exact ⟨rfl, rfl, rfl⟩
theorem d1_8 : decode method_2_code 8 = .ok (.iload_n 0, 1) := by decide +kernel
theorem d1_9 : decode method_2_code 9 = .ok (.iconst 1, 1) := by decide +kernel
theorem d1_10 : decode method_2_code 10 = .ok (.if_icmp .ne 7, 3) := by decide +kernel
theorem d1_13 : decode method_2_code 13 = .ok (.getstatic 13, 3) := by decide +kernel
theorem d1_16 : decode method_2_code 16 = .ok (.areturn, 1) := by decide +kernel
theorem ef_1_1 (m : MethodId)  : entryFrame m #[(.int (1 : Int32))] 1 = mkF m 0 #[.val (.int (1 : Int32))] [] := by first | (simp [entryFrame, mkF, argsToLocals, Value.category]; done) | rfl
def Q1_1 (Z : State) (s_ONE_TO_ONE : Addr) (s_MANY_TO_ONE : Addr) (s_ONE_TO_MANY : Addr) (s_MANY_TO_MANY : Addr) (h0 : Heap) (v : Option Value) (h : Heap) (L : List Loc) : Prop := v = some (.ref s_ONE_TO_MANY) ∧ L = [] ∧ h = h0
set_option maxRecDepth 65536 in
set_option maxHeartbeats 40000000 in
theorem rm1_1 (l : Launch) (Z : State) (a0 : Array Value) (hw : ∀ d ∈ tables_1, d.before a0 Z = true) (ws : List Jvm.Cond) (s_ONE_TO_ONE : Addr) (s_MANY_TO_ONE : Addr) (s_ONE_TO_MANY : Addr) (s_MANY_TO_MANY : Addr) (h0 : Heap) (S_ONE_TO_ONE : Sta Z h0 "com/example/columngen/columngen/workload/Cardinality" "ONE_TO_ONE" "Lcom/example/columngen/columngen/workload/Cardinality;" (.ref s_ONE_TO_ONE)) (E_ONE_TO_ONE : Exa Z h0 s_ONE_TO_ONE "com/example/columngen/columngen/workload/Cardinality") (F_manyOfTarget_ONE_TO_ONE : Fld Z h0 s_ONE_TO_ONE "com/example/columngen/columngen/workload/Cardinality" "manyOfTarget" "Z" (.int (0 : Int32))) (S_MANY_TO_ONE : Sta Z h0 "com/example/columngen/columngen/workload/Cardinality" "MANY_TO_ONE" "Lcom/example/columngen/columngen/workload/Cardinality;" (.ref s_MANY_TO_ONE)) (E_MANY_TO_ONE : Exa Z h0 s_MANY_TO_ONE "com/example/columngen/columngen/workload/Cardinality") (F_manyOfTarget_MANY_TO_ONE : Fld Z h0 s_MANY_TO_ONE "com/example/columngen/columngen/workload/Cardinality" "manyOfTarget" "Z" (.int (0 : Int32))) (F_manyOfSource_ONE_TO_ONE : Fld Z h0 s_ONE_TO_ONE "com/example/columngen/columngen/workload/Cardinality" "manyOfSource" "Z" (.int (0 : Int32))) (S_ONE_TO_MANY : Sta Z h0 "com/example/columngen/columngen/workload/Cardinality" "ONE_TO_MANY" "Lcom/example/columngen/columngen/workload/Cardinality;" (.ref s_ONE_TO_MANY)) (E_ONE_TO_MANY : Exa Z h0 s_ONE_TO_MANY "com/example/columngen/columngen/workload/Cardinality") (F_manyOfTarget_ONE_TO_MANY : Fld Z h0 s_ONE_TO_MANY "com/example/columngen/columngen/workload/Cardinality" "manyOfTarget" "Z" (.int (1 : Int32))) (F_manyOfSource_MANY_TO_ONE : Fld Z h0 s_MANY_TO_ONE "com/example/columngen/columngen/workload/Cardinality" "manyOfSource" "Z" (.int (1 : Int32))) (S_MANY_TO_MANY : Sta Z h0 "com/example/columngen/columngen/workload/Cardinality" "MANY_TO_MANY" "Lcom/example/columngen/columngen/workload/Cardinality;" (.ref s_MANY_TO_MANY)) (E_MANY_TO_MANY : Exa Z h0 s_MANY_TO_MANY "com/example/columngen/columngen/workload/Cardinality") (F_manyOfSource_MANY_TO_MANY : Fld Z h0 s_MANY_TO_MANY "com/example/columngen/columngen/workload/Cardinality" "manyOfSource" "Z" (.int (1 : Int32))) (F_manyOfTarget_MANY_TO_MANY : Fld Z h0 s_MANY_TO_MANY "com/example/columngen/columngen/workload/Cardinality" "manyOfTarget" "Z" (.int (1 : Int32))) (F_manyOfSource_ONE_TO_MANY : Fld Z h0 s_ONE_TO_MANY "com/example/columngen/columngen/workload/Cardinality" "manyOfSource" "Z" (.int (0 : Int32))) :
    MetFree l (⟨"com/example/columngen/columngen/workload/CardinalityToManyPinLaw", "pick", "(I)Lcom/example/columngen/columngen/workload/Cardinality;"⟩ : MethodName) (head1 (Jvm.Cond.code (⟨"com/example/columngen/columngen/workload/CardinalityToManyPinLaw", "pick", "(I)Lcom/example/columngen/columngen/workload/Cardinality;"⟩ : MethodName) method_2_code 1 (some (.object "com/example/columngen/columngen/workload/Cardinality")) :: ws) ({ frames := 0, cells := 0, slots := 0, locals := 0 } : Room)) (fun a U => a = #[(.int (1 : Int32))] ∧ Z.Warmed39 U.vm ∧ U.heap = h0) (fun _ _ _ _ _ => True) (fun _ U o U' => ∃ v L, o = .returned v ∧ Q1_1 Z s_ONE_TO_ONE s_MANY_TO_ONE s_ONE_TO_MANY s_MANY_TO_MANY h0 v U'.heap L ∧ FrameEnd U o U' L ({ frames := 0, cells := 0, slots := 0, locals := 0 } : Room).cells ({ frames := 0, cells := 0, slots := 0, locals := 0 } : Room).slots) := by
  refine MetFree.of_bodySF (plainFor_of_name pn_0) hisR ?_
  intro p e s m args below meth c s₁ Bd hml0 hP hK
  obtain ⟨rfl, hZ, hh⟩ := hP
  have hx := Bd.exec
  have hby := Bd.bytes
  have hml : c.maxLocals = 1 := hml0
  have hown : s.vm.findClass "com/example/columngen/columngen/workload/CardinalityToManyPinLaw" = some m.cls := findClass_of_methodNamed Bd.named
  have hnm := (name_of_methodNamed Bd.named Bd.method).1
  have X0 : Stand p l e ({ frames := 0, cells := 0, slots := 0, locals := 0 } : Room) s m #[(.int (1 : Int32))] below meth c s₁ [] 0 0 := Stand.of_body Bd
  have e0 : s₁.heap = h0 := by rw [← hh, Bd.state]; rfl
  have pre0 : ∀ t, Steps p.tables e below (s₁.setTop (mkF m 0 #[.val (.int (1 : Int32))] [])) t → Steps p.tables e below (s₁.setTop (entryFrame m #[(.int (1 : Int32))] 1)) t := fun t k => castTop (ef_1_1 m ) k
  obtain ⟨T1, X1, e1, st1⟩ := getS2 X0 hx hZ hown (host := "") (Or.inl (hw _ (List.mem_of_getElem? (i := 18) rfl))) Via.refl e0 S_ONE_TO_MANY (g := (mkF m 13 #[vI 1] [])) rfl (hb hby d1_13)
  obtain ⟨fs, hr, hrun, hended, hW, hsame⟩ := X1.leave (v := some (.ref s_ONE_TO_MANY)) (fun h => by rw [Bd.returns] at h; cases h)
  refine ⟨_, _, pre0 _ ?_, hrun, hended, _, _, rfl, ?_, ⟨_, rfl⟩, hW, hsame.mono (by decide) (by decide)⟩
  · show Steps _ _ _ (s₁.setTop (mkF m 0 #[vI 1] [])) _
    refine XS.iloadN X0.here hx rfl (hb hby d1_0) rfl ?_
    show Steps _ _ _ (s₁.setTop (mkF m 1 #[vI 1] [iI 1])) _
    refine XS.ifYes X0.here hx rfl (pc0 := 1) (pc' := 8) rfl (hb hby d1_1) rfl ((if0 _ _).trans (feq (by decide : ¬ ((1 : Int32) = (0 : Int32)))).2) (by decide) (by decide) ?_
    show Steps _ _ _ (s₁.setTop (mkF m 8 #[vI 1] [])) _
    refine XS.iloadN X0.here hx rfl (hb hby d1_8) rfl ?_
    show Steps _ _ _ (s₁.setTop (mkF m 9 #[vI 1] [iI 1])) _
    refine XS.iconst X0.here hx rfl (hb hby d1_9) ?_
    show Steps _ _ _ (s₁.setTop (mkF m 10 #[vI 1] [iI 1, iI 1])) _
    refine XS.icmpNo X0.here hx rfl (hb hby d1_10) rfl (teq (by decide : (1 : Int32) = (1 : Int32))).2 ?_
    show Steps _ _ _ (s₁.setTop (mkF m 13 #[vI 1] [])) _
    refine st1 _ ?_
    show Steps _ _ _ (T1.setTop (mkF m 16 #[vI 1] [iR s_ONE_TO_MANY])) _
    jvm_step X1.here [X1.here.top, hx, (hb hby d1_16), X1.method', Bd.returns, Value.isRef, FieldType.isReference]
    first | (intro acts; rw [hr _ acts rfl rfl rfl]) | rw [hr _ _ rfl rfl rfl]
    exact Steps.refl _
  · show Q1_1 Z s_ONE_TO_ONE s_MANY_TO_ONE s_ONE_TO_MANY s_MANY_TO_MANY h0 _ T1.heap _
    rw [e1]
    exact ⟨rfl, rfl, rfl⟩
theorem d1_17 : decode method_2_code 17 = .ok (.iload_n 0, 1) := by decide +kernel
theorem d1_18 : decode method_2_code 18 = .ok (.iconst 2, 1) := by decide +kernel
theorem d1_19 : decode method_2_code 19 = .ok (.if_icmp .ne 7, 3) := by decide +kernel
theorem d1_22 : decode method_2_code 22 = .ok (.getstatic 16, 3) := by decide +kernel
theorem d1_25 : decode method_2_code 25 = .ok (.areturn, 1) := by decide +kernel
theorem ef_1_2 (m : MethodId)  : entryFrame m #[(.int (2 : Int32))] 1 = mkF m 0 #[.val (.int (2 : Int32))] [] := by first | (simp [entryFrame, mkF, argsToLocals, Value.category]; done) | rfl
def Q1_2 (Z : State) (s_ONE_TO_ONE : Addr) (s_MANY_TO_ONE : Addr) (s_ONE_TO_MANY : Addr) (s_MANY_TO_MANY : Addr) (h0 : Heap) (v : Option Value) (h : Heap) (L : List Loc) : Prop := v = some (.ref s_MANY_TO_ONE) ∧ L = [] ∧ h = h0
set_option maxRecDepth 65536 in
set_option maxHeartbeats 40000000 in
theorem rm1_2 (l : Launch) (Z : State) (a0 : Array Value) (hw : ∀ d ∈ tables_1, d.before a0 Z = true) (ws : List Jvm.Cond) (s_ONE_TO_ONE : Addr) (s_MANY_TO_ONE : Addr) (s_ONE_TO_MANY : Addr) (s_MANY_TO_MANY : Addr) (h0 : Heap) (S_ONE_TO_ONE : Sta Z h0 "com/example/columngen/columngen/workload/Cardinality" "ONE_TO_ONE" "Lcom/example/columngen/columngen/workload/Cardinality;" (.ref s_ONE_TO_ONE)) (E_ONE_TO_ONE : Exa Z h0 s_ONE_TO_ONE "com/example/columngen/columngen/workload/Cardinality") (F_manyOfTarget_ONE_TO_ONE : Fld Z h0 s_ONE_TO_ONE "com/example/columngen/columngen/workload/Cardinality" "manyOfTarget" "Z" (.int (0 : Int32))) (S_MANY_TO_ONE : Sta Z h0 "com/example/columngen/columngen/workload/Cardinality" "MANY_TO_ONE" "Lcom/example/columngen/columngen/workload/Cardinality;" (.ref s_MANY_TO_ONE)) (E_MANY_TO_ONE : Exa Z h0 s_MANY_TO_ONE "com/example/columngen/columngen/workload/Cardinality") (F_manyOfTarget_MANY_TO_ONE : Fld Z h0 s_MANY_TO_ONE "com/example/columngen/columngen/workload/Cardinality" "manyOfTarget" "Z" (.int (0 : Int32))) (F_manyOfSource_ONE_TO_ONE : Fld Z h0 s_ONE_TO_ONE "com/example/columngen/columngen/workload/Cardinality" "manyOfSource" "Z" (.int (0 : Int32))) (S_ONE_TO_MANY : Sta Z h0 "com/example/columngen/columngen/workload/Cardinality" "ONE_TO_MANY" "Lcom/example/columngen/columngen/workload/Cardinality;" (.ref s_ONE_TO_MANY)) (E_ONE_TO_MANY : Exa Z h0 s_ONE_TO_MANY "com/example/columngen/columngen/workload/Cardinality") (F_manyOfTarget_ONE_TO_MANY : Fld Z h0 s_ONE_TO_MANY "com/example/columngen/columngen/workload/Cardinality" "manyOfTarget" "Z" (.int (1 : Int32))) (F_manyOfSource_MANY_TO_ONE : Fld Z h0 s_MANY_TO_ONE "com/example/columngen/columngen/workload/Cardinality" "manyOfSource" "Z" (.int (1 : Int32))) (S_MANY_TO_MANY : Sta Z h0 "com/example/columngen/columngen/workload/Cardinality" "MANY_TO_MANY" "Lcom/example/columngen/columngen/workload/Cardinality;" (.ref s_MANY_TO_MANY)) (E_MANY_TO_MANY : Exa Z h0 s_MANY_TO_MANY "com/example/columngen/columngen/workload/Cardinality") (F_manyOfSource_MANY_TO_MANY : Fld Z h0 s_MANY_TO_MANY "com/example/columngen/columngen/workload/Cardinality" "manyOfSource" "Z" (.int (1 : Int32))) (F_manyOfTarget_MANY_TO_MANY : Fld Z h0 s_MANY_TO_MANY "com/example/columngen/columngen/workload/Cardinality" "manyOfTarget" "Z" (.int (1 : Int32))) (F_manyOfSource_ONE_TO_MANY : Fld Z h0 s_ONE_TO_MANY "com/example/columngen/columngen/workload/Cardinality" "manyOfSource" "Z" (.int (0 : Int32))) :
    MetFree l (⟨"com/example/columngen/columngen/workload/CardinalityToManyPinLaw", "pick", "(I)Lcom/example/columngen/columngen/workload/Cardinality;"⟩ : MethodName) (head1 (Jvm.Cond.code (⟨"com/example/columngen/columngen/workload/CardinalityToManyPinLaw", "pick", "(I)Lcom/example/columngen/columngen/workload/Cardinality;"⟩ : MethodName) method_2_code 1 (some (.object "com/example/columngen/columngen/workload/Cardinality")) :: ws) ({ frames := 0, cells := 0, slots := 0, locals := 0 } : Room)) (fun a U => a = #[(.int (2 : Int32))] ∧ Z.Warmed39 U.vm ∧ U.heap = h0) (fun _ _ _ _ _ => True) (fun _ U o U' => ∃ v L, o = .returned v ∧ Q1_2 Z s_ONE_TO_ONE s_MANY_TO_ONE s_ONE_TO_MANY s_MANY_TO_MANY h0 v U'.heap L ∧ FrameEnd U o U' L ({ frames := 0, cells := 0, slots := 0, locals := 0 } : Room).cells ({ frames := 0, cells := 0, slots := 0, locals := 0 } : Room).slots) := by
  refine MetFree.of_bodySF (plainFor_of_name pn_0) hisR ?_
  intro p e s m args below meth c s₁ Bd hml0 hP hK
  obtain ⟨rfl, hZ, hh⟩ := hP
  have hx := Bd.exec
  have hby := Bd.bytes
  have hml : c.maxLocals = 1 := hml0
  have hown : s.vm.findClass "com/example/columngen/columngen/workload/CardinalityToManyPinLaw" = some m.cls := findClass_of_methodNamed Bd.named
  have hnm := (name_of_methodNamed Bd.named Bd.method).1
  have X0 : Stand p l e ({ frames := 0, cells := 0, slots := 0, locals := 0 } : Room) s m #[(.int (2 : Int32))] below meth c s₁ [] 0 0 := Stand.of_body Bd
  have e0 : s₁.heap = h0 := by rw [← hh, Bd.state]; rfl
  have pre0 : ∀ t, Steps p.tables e below (s₁.setTop (mkF m 0 #[.val (.int (2 : Int32))] [])) t → Steps p.tables e below (s₁.setTop (entryFrame m #[(.int (2 : Int32))] 1)) t := fun t k => castTop (ef_1_2 m ) k
  obtain ⟨T1, X1, e1, st1⟩ := getS2 X0 hx hZ hown (host := "") (Or.inl (hw _ (List.mem_of_getElem? (i := 14) rfl))) Via.refl e0 S_MANY_TO_ONE (g := (mkF m 22 #[vI 2] [])) rfl (hb hby d1_22)
  obtain ⟨fs, hr, hrun, hended, hW, hsame⟩ := X1.leave (v := some (.ref s_MANY_TO_ONE)) (fun h => by rw [Bd.returns] at h; cases h)
  refine ⟨_, _, pre0 _ ?_, hrun, hended, _, _, rfl, ?_, ⟨_, rfl⟩, hW, hsame.mono (by decide) (by decide)⟩
  · show Steps _ _ _ (s₁.setTop (mkF m 0 #[vI 2] [])) _
    refine XS.iloadN X0.here hx rfl (hb hby d1_0) rfl ?_
    show Steps _ _ _ (s₁.setTop (mkF m 1 #[vI 2] [iI 2])) _
    refine XS.ifYes X0.here hx rfl (pc0 := 1) (pc' := 8) rfl (hb hby d1_1) rfl ((if0 _ _).trans (feq (by decide : ¬ ((2 : Int32) = (0 : Int32)))).2) (by decide) (by decide) ?_
    show Steps _ _ _ (s₁.setTop (mkF m 8 #[vI 2] [])) _
    refine XS.iloadN X0.here hx rfl (hb hby d1_8) rfl ?_
    show Steps _ _ _ (s₁.setTop (mkF m 9 #[vI 2] [iI 2])) _
    refine XS.iconst X0.here hx rfl (hb hby d1_9) ?_
    show Steps _ _ _ (s₁.setTop (mkF m 10 #[vI 2] [iI 1, iI 2])) _
    refine XS.icmpYes X0.here hx rfl (pc0 := 10) (pc' := 17) rfl (hb hby d1_10) rfl (feq (by decide : ¬ ((2 : Int32) = (1 : Int32)))).2 (by decide) (by decide) ?_
    show Steps _ _ _ (s₁.setTop (mkF m 17 #[vI 2] [])) _
    refine XS.iloadN X0.here hx rfl (hb hby d1_17) rfl ?_
    show Steps _ _ _ (s₁.setTop (mkF m 18 #[vI 2] [iI 2])) _
    refine XS.iconst X0.here hx rfl (hb hby d1_18) ?_
    show Steps _ _ _ (s₁.setTop (mkF m 19 #[vI 2] [iI 2, iI 2])) _
    refine XS.icmpNo X0.here hx rfl (hb hby d1_19) rfl (teq (by decide : (2 : Int32) = (2 : Int32))).2 ?_
    show Steps _ _ _ (s₁.setTop (mkF m 22 #[vI 2] [])) _
    refine st1 _ ?_
    show Steps _ _ _ (T1.setTop (mkF m 25 #[vI 2] [iR s_MANY_TO_ONE])) _
    jvm_step X1.here [X1.here.top, hx, (hb hby d1_25), X1.method', Bd.returns, Value.isRef, FieldType.isReference]
    first | (intro acts; rw [hr _ acts rfl rfl rfl]) | rw [hr _ _ rfl rfl rfl]
    exact Steps.refl _
  · show Q1_2 Z s_ONE_TO_ONE s_MANY_TO_ONE s_ONE_TO_MANY s_MANY_TO_MANY h0 _ T1.heap _
    rw [e1]
    exact ⟨rfl, rfl, rfl⟩
theorem d1_26 : decode method_2_code 26 = .ok (.getstatic 19, 3) := by decide +kernel
theorem d1_29 : decode method_2_code 29 = .ok (.areturn, 1) := by decide +kernel
theorem ef_1_3 (m : MethodId)  : entryFrame m #[(.int (3 : Int32))] 1 = mkF m 0 #[.val (.int (3 : Int32))] [] := by first | (simp [entryFrame, mkF, argsToLocals, Value.category]; done) | rfl
def Q1_3 (Z : State) (s_ONE_TO_ONE : Addr) (s_MANY_TO_ONE : Addr) (s_ONE_TO_MANY : Addr) (s_MANY_TO_MANY : Addr) (h0 : Heap) (v : Option Value) (h : Heap) (L : List Loc) : Prop := v = some (.ref s_MANY_TO_MANY) ∧ L = [] ∧ h = h0
set_option maxRecDepth 65536 in
set_option maxHeartbeats 40000000 in
theorem rm1_3 (l : Launch) (Z : State) (a0 : Array Value) (hw : ∀ d ∈ tables_1, d.before a0 Z = true) (ws : List Jvm.Cond) (s_ONE_TO_ONE : Addr) (s_MANY_TO_ONE : Addr) (s_ONE_TO_MANY : Addr) (s_MANY_TO_MANY : Addr) (h0 : Heap) (S_ONE_TO_ONE : Sta Z h0 "com/example/columngen/columngen/workload/Cardinality" "ONE_TO_ONE" "Lcom/example/columngen/columngen/workload/Cardinality;" (.ref s_ONE_TO_ONE)) (E_ONE_TO_ONE : Exa Z h0 s_ONE_TO_ONE "com/example/columngen/columngen/workload/Cardinality") (F_manyOfTarget_ONE_TO_ONE : Fld Z h0 s_ONE_TO_ONE "com/example/columngen/columngen/workload/Cardinality" "manyOfTarget" "Z" (.int (0 : Int32))) (S_MANY_TO_ONE : Sta Z h0 "com/example/columngen/columngen/workload/Cardinality" "MANY_TO_ONE" "Lcom/example/columngen/columngen/workload/Cardinality;" (.ref s_MANY_TO_ONE)) (E_MANY_TO_ONE : Exa Z h0 s_MANY_TO_ONE "com/example/columngen/columngen/workload/Cardinality") (F_manyOfTarget_MANY_TO_ONE : Fld Z h0 s_MANY_TO_ONE "com/example/columngen/columngen/workload/Cardinality" "manyOfTarget" "Z" (.int (0 : Int32))) (F_manyOfSource_ONE_TO_ONE : Fld Z h0 s_ONE_TO_ONE "com/example/columngen/columngen/workload/Cardinality" "manyOfSource" "Z" (.int (0 : Int32))) (S_ONE_TO_MANY : Sta Z h0 "com/example/columngen/columngen/workload/Cardinality" "ONE_TO_MANY" "Lcom/example/columngen/columngen/workload/Cardinality;" (.ref s_ONE_TO_MANY)) (E_ONE_TO_MANY : Exa Z h0 s_ONE_TO_MANY "com/example/columngen/columngen/workload/Cardinality") (F_manyOfTarget_ONE_TO_MANY : Fld Z h0 s_ONE_TO_MANY "com/example/columngen/columngen/workload/Cardinality" "manyOfTarget" "Z" (.int (1 : Int32))) (F_manyOfSource_MANY_TO_ONE : Fld Z h0 s_MANY_TO_ONE "com/example/columngen/columngen/workload/Cardinality" "manyOfSource" "Z" (.int (1 : Int32))) (S_MANY_TO_MANY : Sta Z h0 "com/example/columngen/columngen/workload/Cardinality" "MANY_TO_MANY" "Lcom/example/columngen/columngen/workload/Cardinality;" (.ref s_MANY_TO_MANY)) (E_MANY_TO_MANY : Exa Z h0 s_MANY_TO_MANY "com/example/columngen/columngen/workload/Cardinality") (F_manyOfSource_MANY_TO_MANY : Fld Z h0 s_MANY_TO_MANY "com/example/columngen/columngen/workload/Cardinality" "manyOfSource" "Z" (.int (1 : Int32))) (F_manyOfTarget_MANY_TO_MANY : Fld Z h0 s_MANY_TO_MANY "com/example/columngen/columngen/workload/Cardinality" "manyOfTarget" "Z" (.int (1 : Int32))) (F_manyOfSource_ONE_TO_MANY : Fld Z h0 s_ONE_TO_MANY "com/example/columngen/columngen/workload/Cardinality" "manyOfSource" "Z" (.int (0 : Int32))) :
    MetFree l (⟨"com/example/columngen/columngen/workload/CardinalityToManyPinLaw", "pick", "(I)Lcom/example/columngen/columngen/workload/Cardinality;"⟩ : MethodName) (head1 (Jvm.Cond.code (⟨"com/example/columngen/columngen/workload/CardinalityToManyPinLaw", "pick", "(I)Lcom/example/columngen/columngen/workload/Cardinality;"⟩ : MethodName) method_2_code 1 (some (.object "com/example/columngen/columngen/workload/Cardinality")) :: ws) ({ frames := 0, cells := 0, slots := 0, locals := 0 } : Room)) (fun a U => a = #[(.int (3 : Int32))] ∧ Z.Warmed39 U.vm ∧ U.heap = h0) (fun _ _ _ _ _ => True) (fun _ U o U' => ∃ v L, o = .returned v ∧ Q1_3 Z s_ONE_TO_ONE s_MANY_TO_ONE s_ONE_TO_MANY s_MANY_TO_MANY h0 v U'.heap L ∧ FrameEnd U o U' L ({ frames := 0, cells := 0, slots := 0, locals := 0 } : Room).cells ({ frames := 0, cells := 0, slots := 0, locals := 0 } : Room).slots) := by
  refine MetFree.of_bodySF (plainFor_of_name pn_0) hisR ?_
  intro p e s m args below meth c s₁ Bd hml0 hP hK
  obtain ⟨rfl, hZ, hh⟩ := hP
  have hx := Bd.exec
  have hby := Bd.bytes
  have hml : c.maxLocals = 1 := hml0
  have hown : s.vm.findClass "com/example/columngen/columngen/workload/CardinalityToManyPinLaw" = some m.cls := findClass_of_methodNamed Bd.named
  have hnm := (name_of_methodNamed Bd.named Bd.method).1
  have X0 : Stand p l e ({ frames := 0, cells := 0, slots := 0, locals := 0 } : Room) s m #[(.int (3 : Int32))] below meth c s₁ [] 0 0 := Stand.of_body Bd
  have e0 : s₁.heap = h0 := by rw [← hh, Bd.state]; rfl
  have pre0 : ∀ t, Steps p.tables e below (s₁.setTop (mkF m 0 #[.val (.int (3 : Int32))] [])) t → Steps p.tables e below (s₁.setTop (entryFrame m #[(.int (3 : Int32))] 1)) t := fun t k => castTop (ef_1_3 m ) k
  obtain ⟨T1, X1, e1, st1⟩ := getS2 X0 hx hZ hown (host := "") (Or.inl (hw _ (List.mem_of_getElem? (i := 20) rfl))) Via.refl e0 S_MANY_TO_MANY (g := (mkF m 26 #[vI 3] [])) rfl (hb hby d1_26)
  obtain ⟨fs, hr, hrun, hended, hW, hsame⟩ := X1.leave (v := some (.ref s_MANY_TO_MANY)) (fun h => by rw [Bd.returns] at h; cases h)
  refine ⟨_, _, pre0 _ ?_, hrun, hended, _, _, rfl, ?_, ⟨_, rfl⟩, hW, hsame.mono (by decide) (by decide)⟩
  · show Steps _ _ _ (s₁.setTop (mkF m 0 #[vI 3] [])) _
    refine XS.iloadN X0.here hx rfl (hb hby d1_0) rfl ?_
    show Steps _ _ _ (s₁.setTop (mkF m 1 #[vI 3] [iI 3])) _
    refine XS.ifYes X0.here hx rfl (pc0 := 1) (pc' := 8) rfl (hb hby d1_1) rfl ((if0 _ _).trans (feq (by decide : ¬ ((3 : Int32) = (0 : Int32)))).2) (by decide) (by decide) ?_
    show Steps _ _ _ (s₁.setTop (mkF m 8 #[vI 3] [])) _
    refine XS.iloadN X0.here hx rfl (hb hby d1_8) rfl ?_
    show Steps _ _ _ (s₁.setTop (mkF m 9 #[vI 3] [iI 3])) _
    refine XS.iconst X0.here hx rfl (hb hby d1_9) ?_
    show Steps _ _ _ (s₁.setTop (mkF m 10 #[vI 3] [iI 1, iI 3])) _
    refine XS.icmpYes X0.here hx rfl (pc0 := 10) (pc' := 17) rfl (hb hby d1_10) rfl (feq (by decide : ¬ ((3 : Int32) = (1 : Int32)))).2 (by decide) (by decide) ?_
    show Steps _ _ _ (s₁.setTop (mkF m 17 #[vI 3] [])) _
    refine XS.iloadN X0.here hx rfl (hb hby d1_17) rfl ?_
    show Steps _ _ _ (s₁.setTop (mkF m 18 #[vI 3] [iI 3])) _
    refine XS.iconst X0.here hx rfl (hb hby d1_18) ?_
    show Steps _ _ _ (s₁.setTop (mkF m 19 #[vI 3] [iI 2, iI 3])) _
    refine XS.icmpYes X0.here hx rfl (pc0 := 19) (pc' := 26) rfl (hb hby d1_19) rfl (feq (by decide : ¬ ((3 : Int32) = (2 : Int32)))).2 (by decide) (by decide) ?_
    show Steps _ _ _ (s₁.setTop (mkF m 26 #[vI 3] [])) _
    refine st1 _ ?_
    show Steps _ _ _ (T1.setTop (mkF m 29 #[vI 3] [iR s_MANY_TO_MANY])) _
    jvm_step X1.here [X1.here.top, hx, (hb hby d1_29), X1.method', Bd.returns, Value.isRef, FieldType.isReference]
    first | (intro acts; rw [hr _ acts rfl rfl rfl]) | rw [hr _ _ rfl rfl rfl]
    exact Steps.refl _
  · show Q1_3 Z s_ONE_TO_ONE s_MANY_TO_ONE s_ONE_TO_MANY s_MANY_TO_MANY h0 _ T1.heap _
    rw [e1]
    exact ⟨rfl, rfl, rfl⟩
theorem d2_0 : decode prog_70_method_6_code 0 = .ok (.iload_n 1, 1) := by decide +kernel
theorem d2_1 : decode prog_70_method_6_code 1 = .ok (.ifCond .eq 10, 3) := by decide +kernel
theorem d2_11 : decode prog_70_method_6_code 11 = .ok (.aload_n 0, 1) := by decide +kernel
theorem d2_12 : decode prog_70_method_6_code 12 = .ok (.getfield 39, 3) := by decide +kernel
theorem d2_15 : decode prog_70_method_6_code 15 = .ok (.ireturn, 1) := by decide +kernel
theorem pn_1 : plainName "com/example/columngen/columngen/workload/Cardinality" = true := by first | (simp [plainName, overriddenIn]; done) | decide +kernel
theorem ef_2_0_0 (m : MethodId) (x0 : Addr) : entryFrame m #[(.ref x0), (.int (0 : Int32))] 2 = mkF m 0 #[.val (.ref x0), .val (.int (0 : Int32))] [] := by first | (simp [entryFrame, mkF, argsToLocals, Value.category]; done) | rfl
def Q2_0_0 (Z : State) (s_ONE_TO_ONE : Addr) (s_MANY_TO_ONE : Addr) (s_ONE_TO_MANY : Addr) (s_MANY_TO_MANY : Addr) (h0 : Heap) (v : Option Value) (h : Heap) (L : List Loc) : Prop := v = some (.int (0 : Int32)) ∧ L = [] ∧ h = h0
set_option maxRecDepth 65536 in
set_option maxHeartbeats 40000000 in
theorem rm2_0_0 (l : Launch) (Z : State) (a0 : Array Value) (hw : ∀ d ∈ tables_1, d.before a0 Z = true) (ws : List Jvm.Cond) (s_ONE_TO_ONE : Addr) (s_MANY_TO_ONE : Addr) (s_ONE_TO_MANY : Addr) (s_MANY_TO_MANY : Addr) (h0 : Heap) (S_ONE_TO_ONE : Sta Z h0 "com/example/columngen/columngen/workload/Cardinality" "ONE_TO_ONE" "Lcom/example/columngen/columngen/workload/Cardinality;" (.ref s_ONE_TO_ONE)) (E_ONE_TO_ONE : Exa Z h0 s_ONE_TO_ONE "com/example/columngen/columngen/workload/Cardinality") (F_manyOfTarget_ONE_TO_ONE : Fld Z h0 s_ONE_TO_ONE "com/example/columngen/columngen/workload/Cardinality" "manyOfTarget" "Z" (.int (0 : Int32))) (S_MANY_TO_ONE : Sta Z h0 "com/example/columngen/columngen/workload/Cardinality" "MANY_TO_ONE" "Lcom/example/columngen/columngen/workload/Cardinality;" (.ref s_MANY_TO_ONE)) (E_MANY_TO_ONE : Exa Z h0 s_MANY_TO_ONE "com/example/columngen/columngen/workload/Cardinality") (F_manyOfTarget_MANY_TO_ONE : Fld Z h0 s_MANY_TO_ONE "com/example/columngen/columngen/workload/Cardinality" "manyOfTarget" "Z" (.int (0 : Int32))) (F_manyOfSource_ONE_TO_ONE : Fld Z h0 s_ONE_TO_ONE "com/example/columngen/columngen/workload/Cardinality" "manyOfSource" "Z" (.int (0 : Int32))) (S_ONE_TO_MANY : Sta Z h0 "com/example/columngen/columngen/workload/Cardinality" "ONE_TO_MANY" "Lcom/example/columngen/columngen/workload/Cardinality;" (.ref s_ONE_TO_MANY)) (E_ONE_TO_MANY : Exa Z h0 s_ONE_TO_MANY "com/example/columngen/columngen/workload/Cardinality") (F_manyOfTarget_ONE_TO_MANY : Fld Z h0 s_ONE_TO_MANY "com/example/columngen/columngen/workload/Cardinality" "manyOfTarget" "Z" (.int (1 : Int32))) (F_manyOfSource_MANY_TO_ONE : Fld Z h0 s_MANY_TO_ONE "com/example/columngen/columngen/workload/Cardinality" "manyOfSource" "Z" (.int (1 : Int32))) (S_MANY_TO_MANY : Sta Z h0 "com/example/columngen/columngen/workload/Cardinality" "MANY_TO_MANY" "Lcom/example/columngen/columngen/workload/Cardinality;" (.ref s_MANY_TO_MANY)) (E_MANY_TO_MANY : Exa Z h0 s_MANY_TO_MANY "com/example/columngen/columngen/workload/Cardinality") (F_manyOfSource_MANY_TO_MANY : Fld Z h0 s_MANY_TO_MANY "com/example/columngen/columngen/workload/Cardinality" "manyOfSource" "Z" (.int (1 : Int32))) (F_manyOfTarget_MANY_TO_MANY : Fld Z h0 s_MANY_TO_MANY "com/example/columngen/columngen/workload/Cardinality" "manyOfTarget" "Z" (.int (1 : Int32))) (F_manyOfSource_ONE_TO_MANY : Fld Z h0 s_ONE_TO_MANY "com/example/columngen/columngen/workload/Cardinality" "manyOfSource" "Z" (.int (0 : Int32))) :
    MetFree l (⟨"com/example/columngen/columngen/workload/Cardinality", "toMany", "(Z)Z"⟩ : MethodName) (head1 (Jvm.Cond.code (⟨"com/example/columngen/columngen/workload/Cardinality", "toMany", "(Z)Z"⟩ : MethodName) prog_70_method_6_code 2 (some .boolean) :: ws) ({ frames := 0, cells := 0, slots := 0, locals := 0 } : Room)) (fun a U => a = #[(.ref s_ONE_TO_ONE), (.int (0 : Int32))] ∧ Z.Warmed39 U.vm ∧ U.heap = h0) (fun _ _ _ _ _ => True) (fun _ U o U' => ∃ v L, o = .returned v ∧ Q2_0_0 Z s_ONE_TO_ONE s_MANY_TO_ONE s_ONE_TO_MANY s_MANY_TO_MANY h0 v U'.heap L ∧ FrameEnd U o U' L ({ frames := 0, cells := 0, slots := 0, locals := 0 } : Room).cells ({ frames := 0, cells := 0, slots := 0, locals := 0 } : Room).slots) := by
  refine MetFree.of_bodySF (plainFor_of_name pn_1) hisR ?_
  intro p e s m args below meth c s₁ Bd hml0 hP hK
  obtain ⟨rfl, hZ, hh⟩ := hP
  have hx := Bd.exec
  have hby := Bd.bytes
  have hml : c.maxLocals = 2 := hml0
  have hown : s.vm.findClass "com/example/columngen/columngen/workload/Cardinality" = some m.cls := findClass_of_methodNamed Bd.named
  have hnm := (name_of_methodNamed Bd.named Bd.method).1
  have X0 : Stand p l e ({ frames := 0, cells := 0, slots := 0, locals := 0 } : Room) s m #[(.ref s_ONE_TO_ONE), (.int (0 : Int32))] below meth c s₁ [] 0 0 := Stand.of_body Bd
  have e0 : s₁.heap = h0 := by rw [← hh, Bd.state]; rfl
  have pre0 : ∀ t, Steps p.tables e below (s₁.setTop (mkF m 0 #[.val (.ref s_ONE_TO_ONE), .val (.int (0 : Int32))] [])) t → Steps p.tables e below (s₁.setTop (entryFrame m #[(.ref s_ONE_TO_ONE), (.int (0 : Int32))] 2)) t := fun t k => castTop (ef_2_0_0 m s_ONE_TO_ONE) k
  obtain ⟨T1, X1, e1, st1⟩ := getF X0 hx hZ hown (host := "") (Or.inl (hw _ (List.mem_of_getElem? (i := 16) rfl))) Via.refl e0 F_manyOfSource_ONE_TO_ONE (g := (mkF m 12 #[vR s_ONE_TO_ONE, vI 0] [iR s_ONE_TO_ONE])) rfl rfl (hb hby d2_12)
  obtain ⟨fs, hr, hrun, hended, hW, hsame⟩ := X1.leave (v := some (.int (0 : Int32))) (fun h => by rw [Bd.returns] at h; cases h)
  refine ⟨_, _, pre0 _ ?_, hrun, hended, _, _, rfl, ?_, ⟨_, rfl⟩, hW, hsame.mono (by decide) (by decide)⟩
  · show Steps _ _ _ (s₁.setTop (mkF m 0 #[vR s_ONE_TO_ONE, vI 0] [])) _
    refine XS.iloadN X0.here hx rfl (hb hby d2_0) rfl ?_
    show Steps _ _ _ (s₁.setTop (mkF m 1 #[vR s_ONE_TO_ONE, vI 0] [iI 0])) _
    refine XS.ifYes X0.here hx rfl (pc0 := 1) (pc' := 11) rfl (hb hby d2_1) rfl ((if0 _ _).trans (teq (by decide : (0 : Int32) = (0 : Int32))).1) (by decide) (by decide) ?_
    show Steps _ _ _ (s₁.setTop (mkF m 11 #[vR s_ONE_TO_ONE, vI 0] [])) _
    refine XS.aloadN X0.here hx rfl (hb hby d2_11) rfl rfl ?_
    show Steps _ _ _ (s₁.setTop (mkF m 12 #[vR s_ONE_TO_ONE, vI 0] [iR s_ONE_TO_ONE])) _
    refine st1 _ ?_
    show Steps _ _ _ (T1.setTop (mkF m 15 #[vR s_ONE_TO_ONE, vI 0] [iI 0])) _
    exact retN X1 hx (t := .boolean) Bd.returns (by simp) (hb hby d2_15) hr
  · show Q2_0_0 Z s_ONE_TO_ONE s_MANY_TO_ONE s_ONE_TO_MANY s_MANY_TO_MANY h0 _ T1.heap _
    rw [e1]
    exact ⟨rfl, rfl, rfl⟩
theorem d2_4 : decode prog_70_method_6_code 4 = .ok (.aload_n 0, 1) := by decide +kernel
theorem d2_5 : decode prog_70_method_6_code 5 = .ok (.getfield 35, 3) := by decide +kernel
theorem d2_8 : decode prog_70_method_6_code 8 = .ok (.goto 7, 3) := by decide +kernel
theorem ef_2_0_1 (m : MethodId) (x0 : Addr) : entryFrame m #[(.ref x0), (.int (1 : Int32))] 2 = mkF m 0 #[.val (.ref x0), .val (.int (1 : Int32))] [] := by first | (simp [entryFrame, mkF, argsToLocals, Value.category]; done) | rfl
def Q2_0_1 (Z : State) (s_ONE_TO_ONE : Addr) (s_MANY_TO_ONE : Addr) (s_ONE_TO_MANY : Addr) (s_MANY_TO_MANY : Addr) (h0 : Heap) (v : Option Value) (h : Heap) (L : List Loc) : Prop := v = some (.int (0 : Int32)) ∧ L = [] ∧ h = h0
set_option maxRecDepth 65536 in
set_option maxHeartbeats 40000000 in
theorem rm2_0_1 (l : Launch) (Z : State) (a0 : Array Value) (hw : ∀ d ∈ tables_1, d.before a0 Z = true) (ws : List Jvm.Cond) (s_ONE_TO_ONE : Addr) (s_MANY_TO_ONE : Addr) (s_ONE_TO_MANY : Addr) (s_MANY_TO_MANY : Addr) (h0 : Heap) (S_ONE_TO_ONE : Sta Z h0 "com/example/columngen/columngen/workload/Cardinality" "ONE_TO_ONE" "Lcom/example/columngen/columngen/workload/Cardinality;" (.ref s_ONE_TO_ONE)) (E_ONE_TO_ONE : Exa Z h0 s_ONE_TO_ONE "com/example/columngen/columngen/workload/Cardinality") (F_manyOfTarget_ONE_TO_ONE : Fld Z h0 s_ONE_TO_ONE "com/example/columngen/columngen/workload/Cardinality" "manyOfTarget" "Z" (.int (0 : Int32))) (S_MANY_TO_ONE : Sta Z h0 "com/example/columngen/columngen/workload/Cardinality" "MANY_TO_ONE" "Lcom/example/columngen/columngen/workload/Cardinality;" (.ref s_MANY_TO_ONE)) (E_MANY_TO_ONE : Exa Z h0 s_MANY_TO_ONE "com/example/columngen/columngen/workload/Cardinality") (F_manyOfTarget_MANY_TO_ONE : Fld Z h0 s_MANY_TO_ONE "com/example/columngen/columngen/workload/Cardinality" "manyOfTarget" "Z" (.int (0 : Int32))) (F_manyOfSource_ONE_TO_ONE : Fld Z h0 s_ONE_TO_ONE "com/example/columngen/columngen/workload/Cardinality" "manyOfSource" "Z" (.int (0 : Int32))) (S_ONE_TO_MANY : Sta Z h0 "com/example/columngen/columngen/workload/Cardinality" "ONE_TO_MANY" "Lcom/example/columngen/columngen/workload/Cardinality;" (.ref s_ONE_TO_MANY)) (E_ONE_TO_MANY : Exa Z h0 s_ONE_TO_MANY "com/example/columngen/columngen/workload/Cardinality") (F_manyOfTarget_ONE_TO_MANY : Fld Z h0 s_ONE_TO_MANY "com/example/columngen/columngen/workload/Cardinality" "manyOfTarget" "Z" (.int (1 : Int32))) (F_manyOfSource_MANY_TO_ONE : Fld Z h0 s_MANY_TO_ONE "com/example/columngen/columngen/workload/Cardinality" "manyOfSource" "Z" (.int (1 : Int32))) (S_MANY_TO_MANY : Sta Z h0 "com/example/columngen/columngen/workload/Cardinality" "MANY_TO_MANY" "Lcom/example/columngen/columngen/workload/Cardinality;" (.ref s_MANY_TO_MANY)) (E_MANY_TO_MANY : Exa Z h0 s_MANY_TO_MANY "com/example/columngen/columngen/workload/Cardinality") (F_manyOfSource_MANY_TO_MANY : Fld Z h0 s_MANY_TO_MANY "com/example/columngen/columngen/workload/Cardinality" "manyOfSource" "Z" (.int (1 : Int32))) (F_manyOfTarget_MANY_TO_MANY : Fld Z h0 s_MANY_TO_MANY "com/example/columngen/columngen/workload/Cardinality" "manyOfTarget" "Z" (.int (1 : Int32))) (F_manyOfSource_ONE_TO_MANY : Fld Z h0 s_ONE_TO_MANY "com/example/columngen/columngen/workload/Cardinality" "manyOfSource" "Z" (.int (0 : Int32))) :
    MetFree l (⟨"com/example/columngen/columngen/workload/Cardinality", "toMany", "(Z)Z"⟩ : MethodName) (head1 (Jvm.Cond.code (⟨"com/example/columngen/columngen/workload/Cardinality", "toMany", "(Z)Z"⟩ : MethodName) prog_70_method_6_code 2 (some .boolean) :: ws) ({ frames := 0, cells := 0, slots := 0, locals := 0 } : Room)) (fun a U => a = #[(.ref s_ONE_TO_ONE), (.int (1 : Int32))] ∧ Z.Warmed39 U.vm ∧ U.heap = h0) (fun _ _ _ _ _ => True) (fun _ U o U' => ∃ v L, o = .returned v ∧ Q2_0_1 Z s_ONE_TO_ONE s_MANY_TO_ONE s_ONE_TO_MANY s_MANY_TO_MANY h0 v U'.heap L ∧ FrameEnd U o U' L ({ frames := 0, cells := 0, slots := 0, locals := 0 } : Room).cells ({ frames := 0, cells := 0, slots := 0, locals := 0 } : Room).slots) := by
  refine MetFree.of_bodySF (plainFor_of_name pn_1) hisR ?_
  intro p e s m args below meth c s₁ Bd hml0 hP hK
  obtain ⟨rfl, hZ, hh⟩ := hP
  have hx := Bd.exec
  have hby := Bd.bytes
  have hml : c.maxLocals = 2 := hml0
  have hown : s.vm.findClass "com/example/columngen/columngen/workload/Cardinality" = some m.cls := findClass_of_methodNamed Bd.named
  have hnm := (name_of_methodNamed Bd.named Bd.method).1
  have X0 : Stand p l e ({ frames := 0, cells := 0, slots := 0, locals := 0 } : Room) s m #[(.ref s_ONE_TO_ONE), (.int (1 : Int32))] below meth c s₁ [] 0 0 := Stand.of_body Bd
  have e0 : s₁.heap = h0 := by rw [← hh, Bd.state]; rfl
  have pre0 : ∀ t, Steps p.tables e below (s₁.setTop (mkF m 0 #[.val (.ref s_ONE_TO_ONE), .val (.int (1 : Int32))] [])) t → Steps p.tables e below (s₁.setTop (entryFrame m #[(.ref s_ONE_TO_ONE), (.int (1 : Int32))] 2)) t := fun t k => castTop (ef_2_0_1 m s_ONE_TO_ONE) k
  obtain ⟨T1, X1, e1, st1⟩ := getF X0 hx hZ hown (host := "") (Or.inl (hw _ (List.mem_of_getElem? (i := 12) rfl))) Via.refl e0 F_manyOfTarget_ONE_TO_ONE (g := (mkF m 5 #[vR s_ONE_TO_ONE, vI 1] [iR s_ONE_TO_ONE])) rfl rfl (hb hby d2_5)
  obtain ⟨fs, hr, hrun, hended, hW, hsame⟩ := X1.leave (v := some (.int (0 : Int32))) (fun h => by rw [Bd.returns] at h; cases h)
  refine ⟨_, _, pre0 _ ?_, hrun, hended, _, _, rfl, ?_, ⟨_, rfl⟩, hW, hsame.mono (by decide) (by decide)⟩
  · show Steps _ _ _ (s₁.setTop (mkF m 0 #[vR s_ONE_TO_ONE, vI 1] [])) _
    refine XS.iloadN X0.here hx rfl (hb hby d2_0) rfl ?_
    show Steps _ _ _ (s₁.setTop (mkF m 1 #[vR s_ONE_TO_ONE, vI 1] [iI 1])) _
    refine XS.ifNo X0.here hx rfl (hb hby d2_1) rfl ((if0 _ _).trans (feq (by decide : ¬ ((1 : Int32) = (0 : Int32)))).1) ?_
    show Steps _ _ _ (s₁.setTop (mkF m 4 #[vR s_ONE_TO_ONE, vI 1] [])) _
    refine XS.aloadN X0.here hx rfl (hb hby d2_4) rfl rfl ?_
    show Steps _ _ _ (s₁.setTop (mkF m 5 #[vR s_ONE_TO_ONE, vI 1] [iR s_ONE_TO_ONE])) _
    refine st1 _ ?_
    show Steps _ _ _ (T1.setTop (mkF m 8 #[vR s_ONE_TO_ONE, vI 1] [iI 0])) _
    refine XS.goto X1.here hx rfl (pc0 := 8) (pc' := 15) rfl (hb hby d2_8) (by decide) (by decide) ?_
    show Steps _ _ _ (T1.setTop (mkF m 15 #[vR s_ONE_TO_ONE, vI 1] [iI 0])) _
    exact retN X1 hx (t := .boolean) Bd.returns (by simp) (hb hby d2_15) hr
  · show Q2_0_1 Z s_ONE_TO_ONE s_MANY_TO_ONE s_ONE_TO_MANY s_MANY_TO_MANY h0 _ T1.heap _
    rw [e1]
    exact ⟨rfl, rfl, rfl⟩
theorem ef_2_1_0 (m : MethodId) (x0 : Addr) : entryFrame m #[(.ref x0), (.int (0 : Int32))] 2 = mkF m 0 #[.val (.ref x0), .val (.int (0 : Int32))] [] := by first | (simp [entryFrame, mkF, argsToLocals, Value.category]; done) | rfl
def Q2_1_0 (Z : State) (s_ONE_TO_ONE : Addr) (s_MANY_TO_ONE : Addr) (s_ONE_TO_MANY : Addr) (s_MANY_TO_MANY : Addr) (h0 : Heap) (v : Option Value) (h : Heap) (L : List Loc) : Prop := v = some (.int (0 : Int32)) ∧ L = [] ∧ h = h0
set_option maxRecDepth 65536 in
set_option maxHeartbeats 40000000 in
theorem rm2_1_0 (l : Launch) (Z : State) (a0 : Array Value) (hw : ∀ d ∈ tables_1, d.before a0 Z = true) (ws : List Jvm.Cond) (s_ONE_TO_ONE : Addr) (s_MANY_TO_ONE : Addr) (s_ONE_TO_MANY : Addr) (s_MANY_TO_MANY : Addr) (h0 : Heap) (S_ONE_TO_ONE : Sta Z h0 "com/example/columngen/columngen/workload/Cardinality" "ONE_TO_ONE" "Lcom/example/columngen/columngen/workload/Cardinality;" (.ref s_ONE_TO_ONE)) (E_ONE_TO_ONE : Exa Z h0 s_ONE_TO_ONE "com/example/columngen/columngen/workload/Cardinality") (F_manyOfTarget_ONE_TO_ONE : Fld Z h0 s_ONE_TO_ONE "com/example/columngen/columngen/workload/Cardinality" "manyOfTarget" "Z" (.int (0 : Int32))) (S_MANY_TO_ONE : Sta Z h0 "com/example/columngen/columngen/workload/Cardinality" "MANY_TO_ONE" "Lcom/example/columngen/columngen/workload/Cardinality;" (.ref s_MANY_TO_ONE)) (E_MANY_TO_ONE : Exa Z h0 s_MANY_TO_ONE "com/example/columngen/columngen/workload/Cardinality") (F_manyOfTarget_MANY_TO_ONE : Fld Z h0 s_MANY_TO_ONE "com/example/columngen/columngen/workload/Cardinality" "manyOfTarget" "Z" (.int (0 : Int32))) (F_manyOfSource_ONE_TO_ONE : Fld Z h0 s_ONE_TO_ONE "com/example/columngen/columngen/workload/Cardinality" "manyOfSource" "Z" (.int (0 : Int32))) (S_ONE_TO_MANY : Sta Z h0 "com/example/columngen/columngen/workload/Cardinality" "ONE_TO_MANY" "Lcom/example/columngen/columngen/workload/Cardinality;" (.ref s_ONE_TO_MANY)) (E_ONE_TO_MANY : Exa Z h0 s_ONE_TO_MANY "com/example/columngen/columngen/workload/Cardinality") (F_manyOfTarget_ONE_TO_MANY : Fld Z h0 s_ONE_TO_MANY "com/example/columngen/columngen/workload/Cardinality" "manyOfTarget" "Z" (.int (1 : Int32))) (F_manyOfSource_MANY_TO_ONE : Fld Z h0 s_MANY_TO_ONE "com/example/columngen/columngen/workload/Cardinality" "manyOfSource" "Z" (.int (1 : Int32))) (S_MANY_TO_MANY : Sta Z h0 "com/example/columngen/columngen/workload/Cardinality" "MANY_TO_MANY" "Lcom/example/columngen/columngen/workload/Cardinality;" (.ref s_MANY_TO_MANY)) (E_MANY_TO_MANY : Exa Z h0 s_MANY_TO_MANY "com/example/columngen/columngen/workload/Cardinality") (F_manyOfSource_MANY_TO_MANY : Fld Z h0 s_MANY_TO_MANY "com/example/columngen/columngen/workload/Cardinality" "manyOfSource" "Z" (.int (1 : Int32))) (F_manyOfTarget_MANY_TO_MANY : Fld Z h0 s_MANY_TO_MANY "com/example/columngen/columngen/workload/Cardinality" "manyOfTarget" "Z" (.int (1 : Int32))) (F_manyOfSource_ONE_TO_MANY : Fld Z h0 s_ONE_TO_MANY "com/example/columngen/columngen/workload/Cardinality" "manyOfSource" "Z" (.int (0 : Int32))) :
    MetFree l (⟨"com/example/columngen/columngen/workload/Cardinality", "toMany", "(Z)Z"⟩ : MethodName) (head1 (Jvm.Cond.code (⟨"com/example/columngen/columngen/workload/Cardinality", "toMany", "(Z)Z"⟩ : MethodName) prog_70_method_6_code 2 (some .boolean) :: ws) ({ frames := 0, cells := 0, slots := 0, locals := 0 } : Room)) (fun a U => a = #[(.ref s_ONE_TO_MANY), (.int (0 : Int32))] ∧ Z.Warmed39 U.vm ∧ U.heap = h0) (fun _ _ _ _ _ => True) (fun _ U o U' => ∃ v L, o = .returned v ∧ Q2_1_0 Z s_ONE_TO_ONE s_MANY_TO_ONE s_ONE_TO_MANY s_MANY_TO_MANY h0 v U'.heap L ∧ FrameEnd U o U' L ({ frames := 0, cells := 0, slots := 0, locals := 0 } : Room).cells ({ frames := 0, cells := 0, slots := 0, locals := 0 } : Room).slots) := by
  refine MetFree.of_bodySF (plainFor_of_name pn_1) hisR ?_
  intro p e s m args below meth c s₁ Bd hml0 hP hK
  obtain ⟨rfl, hZ, hh⟩ := hP
  have hx := Bd.exec
  have hby := Bd.bytes
  have hml : c.maxLocals = 2 := hml0
  have hown : s.vm.findClass "com/example/columngen/columngen/workload/Cardinality" = some m.cls := findClass_of_methodNamed Bd.named
  have hnm := (name_of_methodNamed Bd.named Bd.method).1
  have X0 : Stand p l e ({ frames := 0, cells := 0, slots := 0, locals := 0 } : Room) s m #[(.ref s_ONE_TO_MANY), (.int (0 : Int32))] below meth c s₁ [] 0 0 := Stand.of_body Bd
  have e0 : s₁.heap = h0 := by rw [← hh, Bd.state]; rfl
  have pre0 : ∀ t, Steps p.tables e below (s₁.setTop (mkF m 0 #[.val (.ref s_ONE_TO_MANY), .val (.int (0 : Int32))] [])) t → Steps p.tables e below (s₁.setTop (entryFrame m #[(.ref s_ONE_TO_MANY), (.int (0 : Int32))] 2)) t := fun t k => castTop (ef_2_1_0 m s_ONE_TO_MANY) k
  obtain ⟨T1, X1, e1, st1⟩ := getF X0 hx hZ hown (host := "") (Or.inl (hw _ (List.mem_of_getElem? (i := 16) rfl))) Via.refl e0 F_manyOfSource_ONE_TO_MANY (g := (mkF m 12 #[vR s_ONE_TO_MANY, vI 0] [iR s_ONE_TO_MANY])) rfl rfl (hb hby d2_12)
  obtain ⟨fs, hr, hrun, hended, hW, hsame⟩ := X1.leave (v := some (.int (0 : Int32))) (fun h => by rw [Bd.returns] at h; cases h)
  refine ⟨_, _, pre0 _ ?_, hrun, hended, _, _, rfl, ?_, ⟨_, rfl⟩, hW, hsame.mono (by decide) (by decide)⟩
  · show Steps _ _ _ (s₁.setTop (mkF m 0 #[vR s_ONE_TO_MANY, vI 0] [])) _
    refine XS.iloadN X0.here hx rfl (hb hby d2_0) rfl ?_
    show Steps _ _ _ (s₁.setTop (mkF m 1 #[vR s_ONE_TO_MANY, vI 0] [iI 0])) _
    refine XS.ifYes X0.here hx rfl (pc0 := 1) (pc' := 11) rfl (hb hby d2_1) rfl ((if0 _ _).trans (teq (by decide : (0 : Int32) = (0 : Int32))).1) (by decide) (by decide) ?_
    show Steps _ _ _ (s₁.setTop (mkF m 11 #[vR s_ONE_TO_MANY, vI 0] [])) _
    refine XS.aloadN X0.here hx rfl (hb hby d2_11) rfl rfl ?_
    show Steps _ _ _ (s₁.setTop (mkF m 12 #[vR s_ONE_TO_MANY, vI 0] [iR s_ONE_TO_MANY])) _
    refine st1 _ ?_
    show Steps _ _ _ (T1.setTop (mkF m 15 #[vR s_ONE_TO_MANY, vI 0] [iI 0])) _
    exact retN X1 hx (t := .boolean) Bd.returns (by simp) (hb hby d2_15) hr
  · show Q2_1_0 Z s_ONE_TO_ONE s_MANY_TO_ONE s_ONE_TO_MANY s_MANY_TO_MANY h0 _ T1.heap _
    rw [e1]
    exact ⟨rfl, rfl, rfl⟩
theorem ef_2_1_1 (m : MethodId) (x0 : Addr) : entryFrame m #[(.ref x0), (.int (1 : Int32))] 2 = mkF m 0 #[.val (.ref x0), .val (.int (1 : Int32))] [] := by first | (simp [entryFrame, mkF, argsToLocals, Value.category]; done) | rfl
def Q2_1_1 (Z : State) (s_ONE_TO_ONE : Addr) (s_MANY_TO_ONE : Addr) (s_ONE_TO_MANY : Addr) (s_MANY_TO_MANY : Addr) (h0 : Heap) (v : Option Value) (h : Heap) (L : List Loc) : Prop := v = some (.int (1 : Int32)) ∧ L = [] ∧ h = h0
set_option maxRecDepth 65536 in
set_option maxHeartbeats 40000000 in
theorem rm2_1_1 (l : Launch) (Z : State) (a0 : Array Value) (hw : ∀ d ∈ tables_1, d.before a0 Z = true) (ws : List Jvm.Cond) (s_ONE_TO_ONE : Addr) (s_MANY_TO_ONE : Addr) (s_ONE_TO_MANY : Addr) (s_MANY_TO_MANY : Addr) (h0 : Heap) (S_ONE_TO_ONE : Sta Z h0 "com/example/columngen/columngen/workload/Cardinality" "ONE_TO_ONE" "Lcom/example/columngen/columngen/workload/Cardinality;" (.ref s_ONE_TO_ONE)) (E_ONE_TO_ONE : Exa Z h0 s_ONE_TO_ONE "com/example/columngen/columngen/workload/Cardinality") (F_manyOfTarget_ONE_TO_ONE : Fld Z h0 s_ONE_TO_ONE "com/example/columngen/columngen/workload/Cardinality" "manyOfTarget" "Z" (.int (0 : Int32))) (S_MANY_TO_ONE : Sta Z h0 "com/example/columngen/columngen/workload/Cardinality" "MANY_TO_ONE" "Lcom/example/columngen/columngen/workload/Cardinality;" (.ref s_MANY_TO_ONE)) (E_MANY_TO_ONE : Exa Z h0 s_MANY_TO_ONE "com/example/columngen/columngen/workload/Cardinality") (F_manyOfTarget_MANY_TO_ONE : Fld Z h0 s_MANY_TO_ONE "com/example/columngen/columngen/workload/Cardinality" "manyOfTarget" "Z" (.int (0 : Int32))) (F_manyOfSource_ONE_TO_ONE : Fld Z h0 s_ONE_TO_ONE "com/example/columngen/columngen/workload/Cardinality" "manyOfSource" "Z" (.int (0 : Int32))) (S_ONE_TO_MANY : Sta Z h0 "com/example/columngen/columngen/workload/Cardinality" "ONE_TO_MANY" "Lcom/example/columngen/columngen/workload/Cardinality;" (.ref s_ONE_TO_MANY)) (E_ONE_TO_MANY : Exa Z h0 s_ONE_TO_MANY "com/example/columngen/columngen/workload/Cardinality") (F_manyOfTarget_ONE_TO_MANY : Fld Z h0 s_ONE_TO_MANY "com/example/columngen/columngen/workload/Cardinality" "manyOfTarget" "Z" (.int (1 : Int32))) (F_manyOfSource_MANY_TO_ONE : Fld Z h0 s_MANY_TO_ONE "com/example/columngen/columngen/workload/Cardinality" "manyOfSource" "Z" (.int (1 : Int32))) (S_MANY_TO_MANY : Sta Z h0 "com/example/columngen/columngen/workload/Cardinality" "MANY_TO_MANY" "Lcom/example/columngen/columngen/workload/Cardinality;" (.ref s_MANY_TO_MANY)) (E_MANY_TO_MANY : Exa Z h0 s_MANY_TO_MANY "com/example/columngen/columngen/workload/Cardinality") (F_manyOfSource_MANY_TO_MANY : Fld Z h0 s_MANY_TO_MANY "com/example/columngen/columngen/workload/Cardinality" "manyOfSource" "Z" (.int (1 : Int32))) (F_manyOfTarget_MANY_TO_MANY : Fld Z h0 s_MANY_TO_MANY "com/example/columngen/columngen/workload/Cardinality" "manyOfTarget" "Z" (.int (1 : Int32))) (F_manyOfSource_ONE_TO_MANY : Fld Z h0 s_ONE_TO_MANY "com/example/columngen/columngen/workload/Cardinality" "manyOfSource" "Z" (.int (0 : Int32))) :
    MetFree l (⟨"com/example/columngen/columngen/workload/Cardinality", "toMany", "(Z)Z"⟩ : MethodName) (head1 (Jvm.Cond.code (⟨"com/example/columngen/columngen/workload/Cardinality", "toMany", "(Z)Z"⟩ : MethodName) prog_70_method_6_code 2 (some .boolean) :: ws) ({ frames := 0, cells := 0, slots := 0, locals := 0 } : Room)) (fun a U => a = #[(.ref s_ONE_TO_MANY), (.int (1 : Int32))] ∧ Z.Warmed39 U.vm ∧ U.heap = h0) (fun _ _ _ _ _ => True) (fun _ U o U' => ∃ v L, o = .returned v ∧ Q2_1_1 Z s_ONE_TO_ONE s_MANY_TO_ONE s_ONE_TO_MANY s_MANY_TO_MANY h0 v U'.heap L ∧ FrameEnd U o U' L ({ frames := 0, cells := 0, slots := 0, locals := 0 } : Room).cells ({ frames := 0, cells := 0, slots := 0, locals := 0 } : Room).slots) := by
  refine MetFree.of_bodySF (plainFor_of_name pn_1) hisR ?_
  intro p e s m args below meth c s₁ Bd hml0 hP hK
  obtain ⟨rfl, hZ, hh⟩ := hP
  have hx := Bd.exec
  have hby := Bd.bytes
  have hml : c.maxLocals = 2 := hml0
  have hown : s.vm.findClass "com/example/columngen/columngen/workload/Cardinality" = some m.cls := findClass_of_methodNamed Bd.named
  have hnm := (name_of_methodNamed Bd.named Bd.method).1
  have X0 : Stand p l e ({ frames := 0, cells := 0, slots := 0, locals := 0 } : Room) s m #[(.ref s_ONE_TO_MANY), (.int (1 : Int32))] below meth c s₁ [] 0 0 := Stand.of_body Bd
  have e0 : s₁.heap = h0 := by rw [← hh, Bd.state]; rfl
  have pre0 : ∀ t, Steps p.tables e below (s₁.setTop (mkF m 0 #[.val (.ref s_ONE_TO_MANY), .val (.int (1 : Int32))] [])) t → Steps p.tables e below (s₁.setTop (entryFrame m #[(.ref s_ONE_TO_MANY), (.int (1 : Int32))] 2)) t := fun t k => castTop (ef_2_1_1 m s_ONE_TO_MANY) k
  obtain ⟨T1, X1, e1, st1⟩ := getF X0 hx hZ hown (host := "") (Or.inl (hw _ (List.mem_of_getElem? (i := 12) rfl))) Via.refl e0 F_manyOfTarget_ONE_TO_MANY (g := (mkF m 5 #[vR s_ONE_TO_MANY, vI 1] [iR s_ONE_TO_MANY])) rfl rfl (hb hby d2_5)
  obtain ⟨fs, hr, hrun, hended, hW, hsame⟩ := X1.leave (v := some (.int (1 : Int32))) (fun h => by rw [Bd.returns] at h; cases h)
  refine ⟨_, _, pre0 _ ?_, hrun, hended, _, _, rfl, ?_, ⟨_, rfl⟩, hW, hsame.mono (by decide) (by decide)⟩
  · show Steps _ _ _ (s₁.setTop (mkF m 0 #[vR s_ONE_TO_MANY, vI 1] [])) _
    refine XS.iloadN X0.here hx rfl (hb hby d2_0) rfl ?_
    show Steps _ _ _ (s₁.setTop (mkF m 1 #[vR s_ONE_TO_MANY, vI 1] [iI 1])) _
    refine XS.ifNo X0.here hx rfl (hb hby d2_1) rfl ((if0 _ _).trans (feq (by decide : ¬ ((1 : Int32) = (0 : Int32)))).1) ?_
    show Steps _ _ _ (s₁.setTop (mkF m 4 #[vR s_ONE_TO_MANY, vI 1] [])) _
    refine XS.aloadN X0.here hx rfl (hb hby d2_4) rfl rfl ?_
    show Steps _ _ _ (s₁.setTop (mkF m 5 #[vR s_ONE_TO_MANY, vI 1] [iR s_ONE_TO_MANY])) _
    refine st1 _ ?_
    show Steps _ _ _ (T1.setTop (mkF m 8 #[vR s_ONE_TO_MANY, vI 1] [iI 1])) _
    refine XS.goto X1.here hx rfl (pc0 := 8) (pc' := 15) rfl (hb hby d2_8) (by decide) (by decide) ?_
    show Steps _ _ _ (T1.setTop (mkF m 15 #[vR s_ONE_TO_MANY, vI 1] [iI 1])) _
    exact retN X1 hx (t := .boolean) Bd.returns (by simp) (hb hby d2_15) hr
  · show Q2_1_1 Z s_ONE_TO_ONE s_MANY_TO_ONE s_ONE_TO_MANY s_MANY_TO_MANY h0 _ T1.heap _
    rw [e1]
    exact ⟨rfl, rfl, rfl⟩
theorem ef_2_2_0 (m : MethodId) (x0 : Addr) : entryFrame m #[(.ref x0), (.int (0 : Int32))] 2 = mkF m 0 #[.val (.ref x0), .val (.int (0 : Int32))] [] := by first | (simp [entryFrame, mkF, argsToLocals, Value.category]; done) | rfl
def Q2_2_0 (Z : State) (s_ONE_TO_ONE : Addr) (s_MANY_TO_ONE : Addr) (s_ONE_TO_MANY : Addr) (s_MANY_TO_MANY : Addr) (h0 : Heap) (v : Option Value) (h : Heap) (L : List Loc) : Prop := v = some (.int (1 : Int32)) ∧ L = [] ∧ h = h0
set_option maxRecDepth 65536 in
set_option maxHeartbeats 40000000 in
theorem rm2_2_0 (l : Launch) (Z : State) (a0 : Array Value) (hw : ∀ d ∈ tables_1, d.before a0 Z = true) (ws : List Jvm.Cond) (s_ONE_TO_ONE : Addr) (s_MANY_TO_ONE : Addr) (s_ONE_TO_MANY : Addr) (s_MANY_TO_MANY : Addr) (h0 : Heap) (S_ONE_TO_ONE : Sta Z h0 "com/example/columngen/columngen/workload/Cardinality" "ONE_TO_ONE" "Lcom/example/columngen/columngen/workload/Cardinality;" (.ref s_ONE_TO_ONE)) (E_ONE_TO_ONE : Exa Z h0 s_ONE_TO_ONE "com/example/columngen/columngen/workload/Cardinality") (F_manyOfTarget_ONE_TO_ONE : Fld Z h0 s_ONE_TO_ONE "com/example/columngen/columngen/workload/Cardinality" "manyOfTarget" "Z" (.int (0 : Int32))) (S_MANY_TO_ONE : Sta Z h0 "com/example/columngen/columngen/workload/Cardinality" "MANY_TO_ONE" "Lcom/example/columngen/columngen/workload/Cardinality;" (.ref s_MANY_TO_ONE)) (E_MANY_TO_ONE : Exa Z h0 s_MANY_TO_ONE "com/example/columngen/columngen/workload/Cardinality") (F_manyOfTarget_MANY_TO_ONE : Fld Z h0 s_MANY_TO_ONE "com/example/columngen/columngen/workload/Cardinality" "manyOfTarget" "Z" (.int (0 : Int32))) (F_manyOfSource_ONE_TO_ONE : Fld Z h0 s_ONE_TO_ONE "com/example/columngen/columngen/workload/Cardinality" "manyOfSource" "Z" (.int (0 : Int32))) (S_ONE_TO_MANY : Sta Z h0 "com/example/columngen/columngen/workload/Cardinality" "ONE_TO_MANY" "Lcom/example/columngen/columngen/workload/Cardinality;" (.ref s_ONE_TO_MANY)) (E_ONE_TO_MANY : Exa Z h0 s_ONE_TO_MANY "com/example/columngen/columngen/workload/Cardinality") (F_manyOfTarget_ONE_TO_MANY : Fld Z h0 s_ONE_TO_MANY "com/example/columngen/columngen/workload/Cardinality" "manyOfTarget" "Z" (.int (1 : Int32))) (F_manyOfSource_MANY_TO_ONE : Fld Z h0 s_MANY_TO_ONE "com/example/columngen/columngen/workload/Cardinality" "manyOfSource" "Z" (.int (1 : Int32))) (S_MANY_TO_MANY : Sta Z h0 "com/example/columngen/columngen/workload/Cardinality" "MANY_TO_MANY" "Lcom/example/columngen/columngen/workload/Cardinality;" (.ref s_MANY_TO_MANY)) (E_MANY_TO_MANY : Exa Z h0 s_MANY_TO_MANY "com/example/columngen/columngen/workload/Cardinality") (F_manyOfSource_MANY_TO_MANY : Fld Z h0 s_MANY_TO_MANY "com/example/columngen/columngen/workload/Cardinality" "manyOfSource" "Z" (.int (1 : Int32))) (F_manyOfTarget_MANY_TO_MANY : Fld Z h0 s_MANY_TO_MANY "com/example/columngen/columngen/workload/Cardinality" "manyOfTarget" "Z" (.int (1 : Int32))) (F_manyOfSource_ONE_TO_MANY : Fld Z h0 s_ONE_TO_MANY "com/example/columngen/columngen/workload/Cardinality" "manyOfSource" "Z" (.int (0 : Int32))) :
    MetFree l (⟨"com/example/columngen/columngen/workload/Cardinality", "toMany", "(Z)Z"⟩ : MethodName) (head1 (Jvm.Cond.code (⟨"com/example/columngen/columngen/workload/Cardinality", "toMany", "(Z)Z"⟩ : MethodName) prog_70_method_6_code 2 (some .boolean) :: ws) ({ frames := 0, cells := 0, slots := 0, locals := 0 } : Room)) (fun a U => a = #[(.ref s_MANY_TO_ONE), (.int (0 : Int32))] ∧ Z.Warmed39 U.vm ∧ U.heap = h0) (fun _ _ _ _ _ => True) (fun _ U o U' => ∃ v L, o = .returned v ∧ Q2_2_0 Z s_ONE_TO_ONE s_MANY_TO_ONE s_ONE_TO_MANY s_MANY_TO_MANY h0 v U'.heap L ∧ FrameEnd U o U' L ({ frames := 0, cells := 0, slots := 0, locals := 0 } : Room).cells ({ frames := 0, cells := 0, slots := 0, locals := 0 } : Room).slots) := by
  refine MetFree.of_bodySF (plainFor_of_name pn_1) hisR ?_
  intro p e s m args below meth c s₁ Bd hml0 hP hK
  obtain ⟨rfl, hZ, hh⟩ := hP
  have hx := Bd.exec
  have hby := Bd.bytes
  have hml : c.maxLocals = 2 := hml0
  have hown : s.vm.findClass "com/example/columngen/columngen/workload/Cardinality" = some m.cls := findClass_of_methodNamed Bd.named
  have hnm := (name_of_methodNamed Bd.named Bd.method).1
  have X0 : Stand p l e ({ frames := 0, cells := 0, slots := 0, locals := 0 } : Room) s m #[(.ref s_MANY_TO_ONE), (.int (0 : Int32))] below meth c s₁ [] 0 0 := Stand.of_body Bd
  have e0 : s₁.heap = h0 := by rw [← hh, Bd.state]; rfl
  have pre0 : ∀ t, Steps p.tables e below (s₁.setTop (mkF m 0 #[.val (.ref s_MANY_TO_ONE), .val (.int (0 : Int32))] [])) t → Steps p.tables e below (s₁.setTop (entryFrame m #[(.ref s_MANY_TO_ONE), (.int (0 : Int32))] 2)) t := fun t k => castTop (ef_2_2_0 m s_MANY_TO_ONE) k
  obtain ⟨T1, X1, e1, st1⟩ := getF X0 hx hZ hown (host := "") (Or.inl (hw _ (List.mem_of_getElem? (i := 16) rfl))) Via.refl e0 F_manyOfSource_MANY_TO_ONE (g := (mkF m 12 #[vR s_MANY_TO_ONE, vI 0] [iR s_MANY_TO_ONE])) rfl rfl (hb hby d2_12)
  obtain ⟨fs, hr, hrun, hended, hW, hsame⟩ := X1.leave (v := some (.int (1 : Int32))) (fun h => by rw [Bd.returns] at h; cases h)
  refine ⟨_, _, pre0 _ ?_, hrun, hended, _, _, rfl, ?_, ⟨_, rfl⟩, hW, hsame.mono (by decide) (by decide)⟩
  · show Steps _ _ _ (s₁.setTop (mkF m 0 #[vR s_MANY_TO_ONE, vI 0] [])) _
    refine XS.iloadN X0.here hx rfl (hb hby d2_0) rfl ?_
    show Steps _ _ _ (s₁.setTop (mkF m 1 #[vR s_MANY_TO_ONE, vI 0] [iI 0])) _
    refine XS.ifYes X0.here hx rfl (pc0 := 1) (pc' := 11) rfl (hb hby d2_1) rfl ((if0 _ _).trans (teq (by decide : (0 : Int32) = (0 : Int32))).1) (by decide) (by decide) ?_
    show Steps _ _ _ (s₁.setTop (mkF m 11 #[vR s_MANY_TO_ONE, vI 0] [])) _
    refine XS.aloadN X0.here hx rfl (hb hby d2_11) rfl rfl ?_
    show Steps _ _ _ (s₁.setTop (mkF m 12 #[vR s_MANY_TO_ONE, vI 0] [iR s_MANY_TO_ONE])) _
    refine st1 _ ?_
    show Steps _ _ _ (T1.setTop (mkF m 15 #[vR s_MANY_TO_ONE, vI 0] [iI 1])) _
    exact retN X1 hx (t := .boolean) Bd.returns (by simp) (hb hby d2_15) hr
  · show Q2_2_0 Z s_ONE_TO_ONE s_MANY_TO_ONE s_ONE_TO_MANY s_MANY_TO_MANY h0 _ T1.heap _
    rw [e1]
    exact ⟨rfl, rfl, rfl⟩
theorem ef_2_2_1 (m : MethodId) (x0 : Addr) : entryFrame m #[(.ref x0), (.int (1 : Int32))] 2 = mkF m 0 #[.val (.ref x0), .val (.int (1 : Int32))] [] := by first | (simp [entryFrame, mkF, argsToLocals, Value.category]; done) | rfl
def Q2_2_1 (Z : State) (s_ONE_TO_ONE : Addr) (s_MANY_TO_ONE : Addr) (s_ONE_TO_MANY : Addr) (s_MANY_TO_MANY : Addr) (h0 : Heap) (v : Option Value) (h : Heap) (L : List Loc) : Prop := v = some (.int (0 : Int32)) ∧ L = [] ∧ h = h0
set_option maxRecDepth 65536 in
set_option maxHeartbeats 40000000 in
theorem rm2_2_1 (l : Launch) (Z : State) (a0 : Array Value) (hw : ∀ d ∈ tables_1, d.before a0 Z = true) (ws : List Jvm.Cond) (s_ONE_TO_ONE : Addr) (s_MANY_TO_ONE : Addr) (s_ONE_TO_MANY : Addr) (s_MANY_TO_MANY : Addr) (h0 : Heap) (S_ONE_TO_ONE : Sta Z h0 "com/example/columngen/columngen/workload/Cardinality" "ONE_TO_ONE" "Lcom/example/columngen/columngen/workload/Cardinality;" (.ref s_ONE_TO_ONE)) (E_ONE_TO_ONE : Exa Z h0 s_ONE_TO_ONE "com/example/columngen/columngen/workload/Cardinality") (F_manyOfTarget_ONE_TO_ONE : Fld Z h0 s_ONE_TO_ONE "com/example/columngen/columngen/workload/Cardinality" "manyOfTarget" "Z" (.int (0 : Int32))) (S_MANY_TO_ONE : Sta Z h0 "com/example/columngen/columngen/workload/Cardinality" "MANY_TO_ONE" "Lcom/example/columngen/columngen/workload/Cardinality;" (.ref s_MANY_TO_ONE)) (E_MANY_TO_ONE : Exa Z h0 s_MANY_TO_ONE "com/example/columngen/columngen/workload/Cardinality") (F_manyOfTarget_MANY_TO_ONE : Fld Z h0 s_MANY_TO_ONE "com/example/columngen/columngen/workload/Cardinality" "manyOfTarget" "Z" (.int (0 : Int32))) (F_manyOfSource_ONE_TO_ONE : Fld Z h0 s_ONE_TO_ONE "com/example/columngen/columngen/workload/Cardinality" "manyOfSource" "Z" (.int (0 : Int32))) (S_ONE_TO_MANY : Sta Z h0 "com/example/columngen/columngen/workload/Cardinality" "ONE_TO_MANY" "Lcom/example/columngen/columngen/workload/Cardinality;" (.ref s_ONE_TO_MANY)) (E_ONE_TO_MANY : Exa Z h0 s_ONE_TO_MANY "com/example/columngen/columngen/workload/Cardinality") (F_manyOfTarget_ONE_TO_MANY : Fld Z h0 s_ONE_TO_MANY "com/example/columngen/columngen/workload/Cardinality" "manyOfTarget" "Z" (.int (1 : Int32))) (F_manyOfSource_MANY_TO_ONE : Fld Z h0 s_MANY_TO_ONE "com/example/columngen/columngen/workload/Cardinality" "manyOfSource" "Z" (.int (1 : Int32))) (S_MANY_TO_MANY : Sta Z h0 "com/example/columngen/columngen/workload/Cardinality" "MANY_TO_MANY" "Lcom/example/columngen/columngen/workload/Cardinality;" (.ref s_MANY_TO_MANY)) (E_MANY_TO_MANY : Exa Z h0 s_MANY_TO_MANY "com/example/columngen/columngen/workload/Cardinality") (F_manyOfSource_MANY_TO_MANY : Fld Z h0 s_MANY_TO_MANY "com/example/columngen/columngen/workload/Cardinality" "manyOfSource" "Z" (.int (1 : Int32))) (F_manyOfTarget_MANY_TO_MANY : Fld Z h0 s_MANY_TO_MANY "com/example/columngen/columngen/workload/Cardinality" "manyOfTarget" "Z" (.int (1 : Int32))) (F_manyOfSource_ONE_TO_MANY : Fld Z h0 s_ONE_TO_MANY "com/example/columngen/columngen/workload/Cardinality" "manyOfSource" "Z" (.int (0 : Int32))) :
    MetFree l (⟨"com/example/columngen/columngen/workload/Cardinality", "toMany", "(Z)Z"⟩ : MethodName) (head1 (Jvm.Cond.code (⟨"com/example/columngen/columngen/workload/Cardinality", "toMany", "(Z)Z"⟩ : MethodName) prog_70_method_6_code 2 (some .boolean) :: ws) ({ frames := 0, cells := 0, slots := 0, locals := 0 } : Room)) (fun a U => a = #[(.ref s_MANY_TO_ONE), (.int (1 : Int32))] ∧ Z.Warmed39 U.vm ∧ U.heap = h0) (fun _ _ _ _ _ => True) (fun _ U o U' => ∃ v L, o = .returned v ∧ Q2_2_1 Z s_ONE_TO_ONE s_MANY_TO_ONE s_ONE_TO_MANY s_MANY_TO_MANY h0 v U'.heap L ∧ FrameEnd U o U' L ({ frames := 0, cells := 0, slots := 0, locals := 0 } : Room).cells ({ frames := 0, cells := 0, slots := 0, locals := 0 } : Room).slots) := by
  refine MetFree.of_bodySF (plainFor_of_name pn_1) hisR ?_
  intro p e s m args below meth c s₁ Bd hml0 hP hK
  obtain ⟨rfl, hZ, hh⟩ := hP
  have hx := Bd.exec
  have hby := Bd.bytes
  have hml : c.maxLocals = 2 := hml0
  have hown : s.vm.findClass "com/example/columngen/columngen/workload/Cardinality" = some m.cls := findClass_of_methodNamed Bd.named
  have hnm := (name_of_methodNamed Bd.named Bd.method).1
  have X0 : Stand p l e ({ frames := 0, cells := 0, slots := 0, locals := 0 } : Room) s m #[(.ref s_MANY_TO_ONE), (.int (1 : Int32))] below meth c s₁ [] 0 0 := Stand.of_body Bd
  have e0 : s₁.heap = h0 := by rw [← hh, Bd.state]; rfl
  have pre0 : ∀ t, Steps p.tables e below (s₁.setTop (mkF m 0 #[.val (.ref s_MANY_TO_ONE), .val (.int (1 : Int32))] [])) t → Steps p.tables e below (s₁.setTop (entryFrame m #[(.ref s_MANY_TO_ONE), (.int (1 : Int32))] 2)) t := fun t k => castTop (ef_2_2_1 m s_MANY_TO_ONE) k
  obtain ⟨T1, X1, e1, st1⟩ := getF X0 hx hZ hown (host := "") (Or.inl (hw _ (List.mem_of_getElem? (i := 12) rfl))) Via.refl e0 F_manyOfTarget_MANY_TO_ONE (g := (mkF m 5 #[vR s_MANY_TO_ONE, vI 1] [iR s_MANY_TO_ONE])) rfl rfl (hb hby d2_5)
  obtain ⟨fs, hr, hrun, hended, hW, hsame⟩ := X1.leave (v := some (.int (0 : Int32))) (fun h => by rw [Bd.returns] at h; cases h)
  refine ⟨_, _, pre0 _ ?_, hrun, hended, _, _, rfl, ?_, ⟨_, rfl⟩, hW, hsame.mono (by decide) (by decide)⟩
  · show Steps _ _ _ (s₁.setTop (mkF m 0 #[vR s_MANY_TO_ONE, vI 1] [])) _
    refine XS.iloadN X0.here hx rfl (hb hby d2_0) rfl ?_
    show Steps _ _ _ (s₁.setTop (mkF m 1 #[vR s_MANY_TO_ONE, vI 1] [iI 1])) _
    refine XS.ifNo X0.here hx rfl (hb hby d2_1) rfl ((if0 _ _).trans (feq (by decide : ¬ ((1 : Int32) = (0 : Int32)))).1) ?_
    show Steps _ _ _ (s₁.setTop (mkF m 4 #[vR s_MANY_TO_ONE, vI 1] [])) _
    refine XS.aloadN X0.here hx rfl (hb hby d2_4) rfl rfl ?_
    show Steps _ _ _ (s₁.setTop (mkF m 5 #[vR s_MANY_TO_ONE, vI 1] [iR s_MANY_TO_ONE])) _
    refine st1 _ ?_
    show Steps _ _ _ (T1.setTop (mkF m 8 #[vR s_MANY_TO_ONE, vI 1] [iI 0])) _
    refine XS.goto X1.here hx rfl (pc0 := 8) (pc' := 15) rfl (hb hby d2_8) (by decide) (by decide) ?_
    show Steps _ _ _ (T1.setTop (mkF m 15 #[vR s_MANY_TO_ONE, vI 1] [iI 0])) _
    exact retN X1 hx (t := .boolean) Bd.returns (by simp) (hb hby d2_15) hr
  · show Q2_2_1 Z s_ONE_TO_ONE s_MANY_TO_ONE s_ONE_TO_MANY s_MANY_TO_MANY h0 _ T1.heap _
    rw [e1]
    exact ⟨rfl, rfl, rfl⟩
theorem ef_2_3_0 (m : MethodId) (x0 : Addr) : entryFrame m #[(.ref x0), (.int (0 : Int32))] 2 = mkF m 0 #[.val (.ref x0), .val (.int (0 : Int32))] [] := by first | (simp [entryFrame, mkF, argsToLocals, Value.category]; done) | rfl
def Q2_3_0 (Z : State) (s_ONE_TO_ONE : Addr) (s_MANY_TO_ONE : Addr) (s_ONE_TO_MANY : Addr) (s_MANY_TO_MANY : Addr) (h0 : Heap) (v : Option Value) (h : Heap) (L : List Loc) : Prop := v = some (.int (1 : Int32)) ∧ L = [] ∧ h = h0
set_option maxRecDepth 65536 in
set_option maxHeartbeats 40000000 in
theorem rm2_3_0 (l : Launch) (Z : State) (a0 : Array Value) (hw : ∀ d ∈ tables_1, d.before a0 Z = true) (ws : List Jvm.Cond) (s_ONE_TO_ONE : Addr) (s_MANY_TO_ONE : Addr) (s_ONE_TO_MANY : Addr) (s_MANY_TO_MANY : Addr) (h0 : Heap) (S_ONE_TO_ONE : Sta Z h0 "com/example/columngen/columngen/workload/Cardinality" "ONE_TO_ONE" "Lcom/example/columngen/columngen/workload/Cardinality;" (.ref s_ONE_TO_ONE)) (E_ONE_TO_ONE : Exa Z h0 s_ONE_TO_ONE "com/example/columngen/columngen/workload/Cardinality") (F_manyOfTarget_ONE_TO_ONE : Fld Z h0 s_ONE_TO_ONE "com/example/columngen/columngen/workload/Cardinality" "manyOfTarget" "Z" (.int (0 : Int32))) (S_MANY_TO_ONE : Sta Z h0 "com/example/columngen/columngen/workload/Cardinality" "MANY_TO_ONE" "Lcom/example/columngen/columngen/workload/Cardinality;" (.ref s_MANY_TO_ONE)) (E_MANY_TO_ONE : Exa Z h0 s_MANY_TO_ONE "com/example/columngen/columngen/workload/Cardinality") (F_manyOfTarget_MANY_TO_ONE : Fld Z h0 s_MANY_TO_ONE "com/example/columngen/columngen/workload/Cardinality" "manyOfTarget" "Z" (.int (0 : Int32))) (F_manyOfSource_ONE_TO_ONE : Fld Z h0 s_ONE_TO_ONE "com/example/columngen/columngen/workload/Cardinality" "manyOfSource" "Z" (.int (0 : Int32))) (S_ONE_TO_MANY : Sta Z h0 "com/example/columngen/columngen/workload/Cardinality" "ONE_TO_MANY" "Lcom/example/columngen/columngen/workload/Cardinality;" (.ref s_ONE_TO_MANY)) (E_ONE_TO_MANY : Exa Z h0 s_ONE_TO_MANY "com/example/columngen/columngen/workload/Cardinality") (F_manyOfTarget_ONE_TO_MANY : Fld Z h0 s_ONE_TO_MANY "com/example/columngen/columngen/workload/Cardinality" "manyOfTarget" "Z" (.int (1 : Int32))) (F_manyOfSource_MANY_TO_ONE : Fld Z h0 s_MANY_TO_ONE "com/example/columngen/columngen/workload/Cardinality" "manyOfSource" "Z" (.int (1 : Int32))) (S_MANY_TO_MANY : Sta Z h0 "com/example/columngen/columngen/workload/Cardinality" "MANY_TO_MANY" "Lcom/example/columngen/columngen/workload/Cardinality;" (.ref s_MANY_TO_MANY)) (E_MANY_TO_MANY : Exa Z h0 s_MANY_TO_MANY "com/example/columngen/columngen/workload/Cardinality") (F_manyOfSource_MANY_TO_MANY : Fld Z h0 s_MANY_TO_MANY "com/example/columngen/columngen/workload/Cardinality" "manyOfSource" "Z" (.int (1 : Int32))) (F_manyOfTarget_MANY_TO_MANY : Fld Z h0 s_MANY_TO_MANY "com/example/columngen/columngen/workload/Cardinality" "manyOfTarget" "Z" (.int (1 : Int32))) (F_manyOfSource_ONE_TO_MANY : Fld Z h0 s_ONE_TO_MANY "com/example/columngen/columngen/workload/Cardinality" "manyOfSource" "Z" (.int (0 : Int32))) :
    MetFree l (⟨"com/example/columngen/columngen/workload/Cardinality", "toMany", "(Z)Z"⟩ : MethodName) (head1 (Jvm.Cond.code (⟨"com/example/columngen/columngen/workload/Cardinality", "toMany", "(Z)Z"⟩ : MethodName) prog_70_method_6_code 2 (some .boolean) :: ws) ({ frames := 0, cells := 0, slots := 0, locals := 0 } : Room)) (fun a U => a = #[(.ref s_MANY_TO_MANY), (.int (0 : Int32))] ∧ Z.Warmed39 U.vm ∧ U.heap = h0) (fun _ _ _ _ _ => True) (fun _ U o U' => ∃ v L, o = .returned v ∧ Q2_3_0 Z s_ONE_TO_ONE s_MANY_TO_ONE s_ONE_TO_MANY s_MANY_TO_MANY h0 v U'.heap L ∧ FrameEnd U o U' L ({ frames := 0, cells := 0, slots := 0, locals := 0 } : Room).cells ({ frames := 0, cells := 0, slots := 0, locals := 0 } : Room).slots) := by
  refine MetFree.of_bodySF (plainFor_of_name pn_1) hisR ?_
  intro p e s m args below meth c s₁ Bd hml0 hP hK
  obtain ⟨rfl, hZ, hh⟩ := hP
  have hx := Bd.exec
  have hby := Bd.bytes
  have hml : c.maxLocals = 2 := hml0
  have hown : s.vm.findClass "com/example/columngen/columngen/workload/Cardinality" = some m.cls := findClass_of_methodNamed Bd.named
  have hnm := (name_of_methodNamed Bd.named Bd.method).1
  have X0 : Stand p l e ({ frames := 0, cells := 0, slots := 0, locals := 0 } : Room) s m #[(.ref s_MANY_TO_MANY), (.int (0 : Int32))] below meth c s₁ [] 0 0 := Stand.of_body Bd
  have e0 : s₁.heap = h0 := by rw [← hh, Bd.state]; rfl
  have pre0 : ∀ t, Steps p.tables e below (s₁.setTop (mkF m 0 #[.val (.ref s_MANY_TO_MANY), .val (.int (0 : Int32))] [])) t → Steps p.tables e below (s₁.setTop (entryFrame m #[(.ref s_MANY_TO_MANY), (.int (0 : Int32))] 2)) t := fun t k => castTop (ef_2_3_0 m s_MANY_TO_MANY) k
  obtain ⟨T1, X1, e1, st1⟩ := getF X0 hx hZ hown (host := "") (Or.inl (hw _ (List.mem_of_getElem? (i := 16) rfl))) Via.refl e0 F_manyOfSource_MANY_TO_MANY (g := (mkF m 12 #[vR s_MANY_TO_MANY, vI 0] [iR s_MANY_TO_MANY])) rfl rfl (hb hby d2_12)
  obtain ⟨fs, hr, hrun, hended, hW, hsame⟩ := X1.leave (v := some (.int (1 : Int32))) (fun h => by rw [Bd.returns] at h; cases h)
  refine ⟨_, _, pre0 _ ?_, hrun, hended, _, _, rfl, ?_, ⟨_, rfl⟩, hW, hsame.mono (by decide) (by decide)⟩
  · show Steps _ _ _ (s₁.setTop (mkF m 0 #[vR s_MANY_TO_MANY, vI 0] [])) _
    refine XS.iloadN X0.here hx rfl (hb hby d2_0) rfl ?_
    show Steps _ _ _ (s₁.setTop (mkF m 1 #[vR s_MANY_TO_MANY, vI 0] [iI 0])) _
    refine XS.ifYes X0.here hx rfl (pc0 := 1) (pc' := 11) rfl (hb hby d2_1) rfl ((if0 _ _).trans (teq (by decide : (0 : Int32) = (0 : Int32))).1) (by decide) (by decide) ?_
    show Steps _ _ _ (s₁.setTop (mkF m 11 #[vR s_MANY_TO_MANY, vI 0] [])) _
    refine XS.aloadN X0.here hx rfl (hb hby d2_11) rfl rfl ?_
    show Steps _ _ _ (s₁.setTop (mkF m 12 #[vR s_MANY_TO_MANY, vI 0] [iR s_MANY_TO_MANY])) _
    refine st1 _ ?_
    show Steps _ _ _ (T1.setTop (mkF m 15 #[vR s_MANY_TO_MANY, vI 0] [iI 1])) _
    exact retN X1 hx (t := .boolean) Bd.returns (by simp) (hb hby d2_15) hr
  · show Q2_3_0 Z s_ONE_TO_ONE s_MANY_TO_ONE s_ONE_TO_MANY s_MANY_TO_MANY h0 _ T1.heap _
    rw [e1]
    exact ⟨rfl, rfl, rfl⟩
theorem ef_2_3_1 (m : MethodId) (x0 : Addr) : entryFrame m #[(.ref x0), (.int (1 : Int32))] 2 = mkF m 0 #[.val (.ref x0), .val (.int (1 : Int32))] [] := by first | (simp [entryFrame, mkF, argsToLocals, Value.category]; done) | rfl
def Q2_3_1 (Z : State) (s_ONE_TO_ONE : Addr) (s_MANY_TO_ONE : Addr) (s_ONE_TO_MANY : Addr) (s_MANY_TO_MANY : Addr) (h0 : Heap) (v : Option Value) (h : Heap) (L : List Loc) : Prop := v = some (.int (1 : Int32)) ∧ L = [] ∧ h = h0
set_option maxRecDepth 65536 in
set_option maxHeartbeats 40000000 in
theorem rm2_3_1 (l : Launch) (Z : State) (a0 : Array Value) (hw : ∀ d ∈ tables_1, d.before a0 Z = true) (ws : List Jvm.Cond) (s_ONE_TO_ONE : Addr) (s_MANY_TO_ONE : Addr) (s_ONE_TO_MANY : Addr) (s_MANY_TO_MANY : Addr) (h0 : Heap) (S_ONE_TO_ONE : Sta Z h0 "com/example/columngen/columngen/workload/Cardinality" "ONE_TO_ONE" "Lcom/example/columngen/columngen/workload/Cardinality;" (.ref s_ONE_TO_ONE)) (E_ONE_TO_ONE : Exa Z h0 s_ONE_TO_ONE "com/example/columngen/columngen/workload/Cardinality") (F_manyOfTarget_ONE_TO_ONE : Fld Z h0 s_ONE_TO_ONE "com/example/columngen/columngen/workload/Cardinality" "manyOfTarget" "Z" (.int (0 : Int32))) (S_MANY_TO_ONE : Sta Z h0 "com/example/columngen/columngen/workload/Cardinality" "MANY_TO_ONE" "Lcom/example/columngen/columngen/workload/Cardinality;" (.ref s_MANY_TO_ONE)) (E_MANY_TO_ONE : Exa Z h0 s_MANY_TO_ONE "com/example/columngen/columngen/workload/Cardinality") (F_manyOfTarget_MANY_TO_ONE : Fld Z h0 s_MANY_TO_ONE "com/example/columngen/columngen/workload/Cardinality" "manyOfTarget" "Z" (.int (0 : Int32))) (F_manyOfSource_ONE_TO_ONE : Fld Z h0 s_ONE_TO_ONE "com/example/columngen/columngen/workload/Cardinality" "manyOfSource" "Z" (.int (0 : Int32))) (S_ONE_TO_MANY : Sta Z h0 "com/example/columngen/columngen/workload/Cardinality" "ONE_TO_MANY" "Lcom/example/columngen/columngen/workload/Cardinality;" (.ref s_ONE_TO_MANY)) (E_ONE_TO_MANY : Exa Z h0 s_ONE_TO_MANY "com/example/columngen/columngen/workload/Cardinality") (F_manyOfTarget_ONE_TO_MANY : Fld Z h0 s_ONE_TO_MANY "com/example/columngen/columngen/workload/Cardinality" "manyOfTarget" "Z" (.int (1 : Int32))) (F_manyOfSource_MANY_TO_ONE : Fld Z h0 s_MANY_TO_ONE "com/example/columngen/columngen/workload/Cardinality" "manyOfSource" "Z" (.int (1 : Int32))) (S_MANY_TO_MANY : Sta Z h0 "com/example/columngen/columngen/workload/Cardinality" "MANY_TO_MANY" "Lcom/example/columngen/columngen/workload/Cardinality;" (.ref s_MANY_TO_MANY)) (E_MANY_TO_MANY : Exa Z h0 s_MANY_TO_MANY "com/example/columngen/columngen/workload/Cardinality") (F_manyOfSource_MANY_TO_MANY : Fld Z h0 s_MANY_TO_MANY "com/example/columngen/columngen/workload/Cardinality" "manyOfSource" "Z" (.int (1 : Int32))) (F_manyOfTarget_MANY_TO_MANY : Fld Z h0 s_MANY_TO_MANY "com/example/columngen/columngen/workload/Cardinality" "manyOfTarget" "Z" (.int (1 : Int32))) (F_manyOfSource_ONE_TO_MANY : Fld Z h0 s_ONE_TO_MANY "com/example/columngen/columngen/workload/Cardinality" "manyOfSource" "Z" (.int (0 : Int32))) :
    MetFree l (⟨"com/example/columngen/columngen/workload/Cardinality", "toMany", "(Z)Z"⟩ : MethodName) (head1 (Jvm.Cond.code (⟨"com/example/columngen/columngen/workload/Cardinality", "toMany", "(Z)Z"⟩ : MethodName) prog_70_method_6_code 2 (some .boolean) :: ws) ({ frames := 0, cells := 0, slots := 0, locals := 0 } : Room)) (fun a U => a = #[(.ref s_MANY_TO_MANY), (.int (1 : Int32))] ∧ Z.Warmed39 U.vm ∧ U.heap = h0) (fun _ _ _ _ _ => True) (fun _ U o U' => ∃ v L, o = .returned v ∧ Q2_3_1 Z s_ONE_TO_ONE s_MANY_TO_ONE s_ONE_TO_MANY s_MANY_TO_MANY h0 v U'.heap L ∧ FrameEnd U o U' L ({ frames := 0, cells := 0, slots := 0, locals := 0 } : Room).cells ({ frames := 0, cells := 0, slots := 0, locals := 0 } : Room).slots) := by
  refine MetFree.of_bodySF (plainFor_of_name pn_1) hisR ?_
  intro p e s m args below meth c s₁ Bd hml0 hP hK
  obtain ⟨rfl, hZ, hh⟩ := hP
  have hx := Bd.exec
  have hby := Bd.bytes
  have hml : c.maxLocals = 2 := hml0
  have hown : s.vm.findClass "com/example/columngen/columngen/workload/Cardinality" = some m.cls := findClass_of_methodNamed Bd.named
  have hnm := (name_of_methodNamed Bd.named Bd.method).1
  have X0 : Stand p l e ({ frames := 0, cells := 0, slots := 0, locals := 0 } : Room) s m #[(.ref s_MANY_TO_MANY), (.int (1 : Int32))] below meth c s₁ [] 0 0 := Stand.of_body Bd
  have e0 : s₁.heap = h0 := by rw [← hh, Bd.state]; rfl
  have pre0 : ∀ t, Steps p.tables e below (s₁.setTop (mkF m 0 #[.val (.ref s_MANY_TO_MANY), .val (.int (1 : Int32))] [])) t → Steps p.tables e below (s₁.setTop (entryFrame m #[(.ref s_MANY_TO_MANY), (.int (1 : Int32))] 2)) t := fun t k => castTop (ef_2_3_1 m s_MANY_TO_MANY) k
  obtain ⟨T1, X1, e1, st1⟩ := getF X0 hx hZ hown (host := "") (Or.inl (hw _ (List.mem_of_getElem? (i := 12) rfl))) Via.refl e0 F_manyOfTarget_MANY_TO_MANY (g := (mkF m 5 #[vR s_MANY_TO_MANY, vI 1] [iR s_MANY_TO_MANY])) rfl rfl (hb hby d2_5)
  obtain ⟨fs, hr, hrun, hended, hW, hsame⟩ := X1.leave (v := some (.int (1 : Int32))) (fun h => by rw [Bd.returns] at h; cases h)
  refine ⟨_, _, pre0 _ ?_, hrun, hended, _, _, rfl, ?_, ⟨_, rfl⟩, hW, hsame.mono (by decide) (by decide)⟩
  · show Steps _ _ _ (s₁.setTop (mkF m 0 #[vR s_MANY_TO_MANY, vI 1] [])) _
    refine XS.iloadN X0.here hx rfl (hb hby d2_0) rfl ?_
    show Steps _ _ _ (s₁.setTop (mkF m 1 #[vR s_MANY_TO_MANY, vI 1] [iI 1])) _
    refine XS.ifNo X0.here hx rfl (hb hby d2_1) rfl ((if0 _ _).trans (feq (by decide : ¬ ((1 : Int32) = (0 : Int32)))).1) ?_
    show Steps _ _ _ (s₁.setTop (mkF m 4 #[vR s_MANY_TO_MANY, vI 1] [])) _
    refine XS.aloadN X0.here hx rfl (hb hby d2_4) rfl rfl ?_
    show Steps _ _ _ (s₁.setTop (mkF m 5 #[vR s_MANY_TO_MANY, vI 1] [iR s_MANY_TO_MANY])) _
    refine st1 _ ?_
    show Steps _ _ _ (T1.setTop (mkF m 8 #[vR s_MANY_TO_MANY, vI 1] [iI 1])) _
    refine XS.goto X1.here hx rfl (pc0 := 8) (pc' := 15) rfl (hb hby d2_8) (by decide) (by decide) ?_
    show Steps _ _ _ (T1.setTop (mkF m 15 #[vR s_MANY_TO_MANY, vI 1] [iI 1])) _
    exact retN X1 hx (t := .boolean) Bd.returns (by simp) (hb hby d2_15) hr
  · show Q2_3_1 Z s_ONE_TO_ONE s_MANY_TO_ONE s_ONE_TO_MANY s_MANY_TO_MANY h0 _ T1.heap _
    rw [e1]
    exact ⟨rfl, rfl, rfl⟩
theorem ef_0 (m : MethodId) (x0 : Int32) (x1 : Int32) : entryFrame m #[(.int x0), (.int x1)] maxLocals = mkF m 0 #[.val (.int x0), .val (.int x1), .unset, .unset, .unset, .unset, .unset, .unset] [] := by first | (simp [entryFrame, mkF, argsToLocals, Value.category, maxLocals]; done) | rfl
def Q0 (Z : State) (p1 : Int32) (p2 : Int32) (s_ONE_TO_ONE : Addr) (s_MANY_TO_ONE : Addr) (s_ONE_TO_MANY : Addr) (s_MANY_TO_MANY : Addr) (h0 : Heap) (v : Option Value) (h : Heap) (L : List Loc) : Prop := v = some (.int (1 : Int32)) ∧ L = [] ∧ h = h0
set_option maxRecDepth 65536 in
set_option maxHeartbeats 40000000 in
theorem rm0 (l : Launch) (Z : State) (a0 : Array Value) (hw : ∀ d ∈ tables_1, d.before a0 Z = true) (ws : List Jvm.Cond) (p1 : Int32) (p2 : Int32) (s_ONE_TO_ONE : Addr) (s_MANY_TO_ONE : Addr) (s_ONE_TO_MANY : Addr) (s_MANY_TO_MANY : Addr) (h0 : Heap) (S_ONE_TO_ONE : Sta Z h0 "com/example/columngen/columngen/workload/Cardinality" "ONE_TO_ONE" "Lcom/example/columngen/columngen/workload/Cardinality;" (.ref s_ONE_TO_ONE)) (E_ONE_TO_ONE : Exa Z h0 s_ONE_TO_ONE "com/example/columngen/columngen/workload/Cardinality") (F_manyOfTarget_ONE_TO_ONE : Fld Z h0 s_ONE_TO_ONE "com/example/columngen/columngen/workload/Cardinality" "manyOfTarget" "Z" (.int (0 : Int32))) (S_MANY_TO_ONE : Sta Z h0 "com/example/columngen/columngen/workload/Cardinality" "MANY_TO_ONE" "Lcom/example/columngen/columngen/workload/Cardinality;" (.ref s_MANY_TO_ONE)) (E_MANY_TO_ONE : Exa Z h0 s_MANY_TO_ONE "com/example/columngen/columngen/workload/Cardinality") (F_manyOfTarget_MANY_TO_ONE : Fld Z h0 s_MANY_TO_ONE "com/example/columngen/columngen/workload/Cardinality" "manyOfTarget" "Z" (.int (0 : Int32))) (F_manyOfSource_ONE_TO_ONE : Fld Z h0 s_ONE_TO_ONE "com/example/columngen/columngen/workload/Cardinality" "manyOfSource" "Z" (.int (0 : Int32))) (S_ONE_TO_MANY : Sta Z h0 "com/example/columngen/columngen/workload/Cardinality" "ONE_TO_MANY" "Lcom/example/columngen/columngen/workload/Cardinality;" (.ref s_ONE_TO_MANY)) (E_ONE_TO_MANY : Exa Z h0 s_ONE_TO_MANY "com/example/columngen/columngen/workload/Cardinality") (F_manyOfTarget_ONE_TO_MANY : Fld Z h0 s_ONE_TO_MANY "com/example/columngen/columngen/workload/Cardinality" "manyOfTarget" "Z" (.int (1 : Int32))) (F_manyOfSource_MANY_TO_ONE : Fld Z h0 s_MANY_TO_ONE "com/example/columngen/columngen/workload/Cardinality" "manyOfSource" "Z" (.int (1 : Int32))) (S_MANY_TO_MANY : Sta Z h0 "com/example/columngen/columngen/workload/Cardinality" "MANY_TO_MANY" "Lcom/example/columngen/columngen/workload/Cardinality;" (.ref s_MANY_TO_MANY)) (E_MANY_TO_MANY : Exa Z h0 s_MANY_TO_MANY "com/example/columngen/columngen/workload/Cardinality") (F_manyOfSource_MANY_TO_MANY : Fld Z h0 s_MANY_TO_MANY "com/example/columngen/columngen/workload/Cardinality" "manyOfSource" "Z" (.int (1 : Int32))) (F_manyOfTarget_MANY_TO_MANY : Fld Z h0 s_MANY_TO_MANY "com/example/columngen/columngen/workload/Cardinality" "manyOfTarget" "Z" (.int (1 : Int32))) (F_manyOfSource_ONE_TO_MANY : Fld Z h0 s_ONE_TO_MANY "com/example/columngen/columngen/workload/Cardinality" "manyOfSource" "Z" (.int (0 : Int32))) :
    MetFree l x (head1 (Jvm.Cond.code x code maxLocals ret :: ws) room_1) (fun a U => a = #[(.int p1), (.int p2)] ∧ Z.Warmed39 U.vm ∧ U.heap = h0) (fun _ _ _ _ _ => True) (fun _ U o U' => ∃ v L, o = .returned v ∧ Q0 Z p1 p2 s_ONE_TO_ONE s_MANY_TO_ONE s_ONE_TO_MANY s_MANY_TO_MANY h0 v U'.heap L ∧ FrameEnd U o U' L room_1.cells room_1.slots) := by
  refine MetFree.of_bodySF (plainFor_of_name pn_0) hisR ?_
  intro p e s m args below meth c s₁ Bd hml0 hP hK
  obtain ⟨rfl, hZ, hh⟩ := hP
  have hx := Bd.exec
  have hby := Bd.bytes
  have hml : c.maxLocals = 8 := hml0
  have hown : s.vm.findClass "com/example/columngen/columngen/workload/CardinalityToManyPinLaw" = some m.cls := findClass_of_methodNamed Bd.named
  have hnm := (name_of_methodNamed Bd.named Bd.method).1
  have X0 : Stand p l e room_1 s m #[(.int p1), (.int p2)] below meth c s₁ [] 0 0 := Stand.of_body Bd
  have e0 : s₁.heap = h0 := by rw [← hh, Bd.state]; rfl
  have pre0 : ∀ t, Steps p.tables e below (s₁.setTop (mkF m 0 #[.val (.int p1), .val (.int p2), .unset, .unset, .unset, .unset, .unset, .unset] [])) t → Steps p.tables e below (s₁.setTop (entryFrame m #[(.int p1), (.int p2)] maxLocals)) t := fun t k => castTop (ef_0 m p1 p2) k
  obtain ⟨kv, hkv⟩ : ∃ z : Int32, z = (p1 &&& (3 : Int32)) := ⟨_, rfl⟩
  have qkv : kv = 0 ∨ kv = 1 ∨ kv = 2 ∨ kv = 3 := by rw [hkv]; exact own_small4 _ (c_and p1 3 (by decide)).1 (Int.lt_of_le_of_lt (c_and p1 3 (by decide)).2 (by decide))
  have pre2 : ∀ t, Steps p.tables e below (s₁.setTop (mkF m 4 #[vI p1, vI p2, vI kv, .unset, .unset, .unset, .unset, .unset] [])) t → Steps p.tables e below (s₁.setTop (entryFrame m #[(.int p1), (.int p2)] maxLocals)) t := by
    intro t kt
    refine pre0 t ?_
    show Steps _ _ _ (s₁.setTop (mkF m 0 #[vI p1, vI p2, .unset, .unset, .unset, .unset, .unset, .unset] [])) _
    refine XS.iloadN X0.here hx rfl (hb hby at_0) rfl ?_
    show Steps _ _ _ (s₁.setTop (mkF m 1 #[vI p1, vI p2, .unset, .unset, .unset, .unset, .unset, .unset] [iI p1])) _
    refine XS.iconst X0.here hx rfl (hb hby at_1) ?_
    show Steps _ _ _ (s₁.setTop (mkF m 2 #[vI p1, vI p2, .unset, .unset, .unset, .unset, .unset, .unset] [iI 3, iI p1])) _
    refine XS.iand X0.here hx rfl (hb hby at_2) rfl ?_
    show Steps _ _ _ (s₁.setTop (mkF m 3 #[vI p1, vI p2, .unset, .unset, .unset, .unset, .unset, .unset] [iI (p1 &&& (3 : Int32))])) _
    refine XS.istoreN X0.here hx rfl (hb hby at_3) rfl (l' := #[vI p1, vI p2, vI (p1 &&& (3 : Int32)), .unset, .unset, .unset, .unset, .unset]) rfl ?_
    rw [← hkv]
    exact kt
  rcases qkv with rfl | rfl | rfl | rfl
  · obtain ⟨v3, hv3⟩ : ∃ z : Int32, z = (if (p2 &&& (1 : Int32)) = (0 : Int32) then (0 : Int32) else (1 : Int32)) := ⟨_, rfl⟩
    obtain ⟨T4, X4, e4, st4⟩ : own_Mid X0 h0 (mkF m 7 #[vI p1, vI p2, vI 0, .unset, .unset, .unset, .unset, .unset] [iI (p2 &&& (1 : Int32))]) (mkF m 15 #[vI p1, vI p2, vI 0, .unset, .unset, .unset, .unset, .unset] [iI v3]) := by
      by_cases hc5 : (p2 &&& (1 : Int32)) = (0 : Int32)
      · refine ⟨s₁, X0, e0, fun t kt => ?_⟩
        subst hv3
        simp only [if_pos hc5] at kt
        show Steps _ _ _ (s₁.setTop (mkF m 7 #[vI p1, vI p2, vI 0, .unset, .unset, .unset, .unset, .unset] [iI (p2 &&& (1 : Int32))])) _
        refine XS.ifYes X0.here hx rfl (pc0 := 7) (pc' := 14) rfl (hb hby at_7) rfl ((if0 _ _).trans (teq hc5).1) (by decide) (by decide) ?_
        show Steps _ _ _ (s₁.setTop (mkF m 14 #[vI p1, vI p2, vI 0, .unset, .unset, .unset, .unset, .unset] [])) _
        refine XS.iconst X0.here hx rfl (hb hby at_14) ?_
        exact kt
      · refine ⟨s₁, X0, e0, fun t kt => ?_⟩
        subst hv3
        simp only [if_neg hc5] at kt
        show Steps _ _ _ (s₁.setTop (mkF m 7 #[vI p1, vI p2, vI 0, .unset, .unset, .unset, .unset, .unset] [iI (p2 &&& (1 : Int32))])) _
        refine XS.ifNo X0.here hx rfl (hb hby at_7) rfl ((if0 _ _).trans (feq hc5).1) ?_
        show Steps _ _ _ (s₁.setTop (mkF m 10 #[vI p1, vI p2, vI 0, .unset, .unset, .unset, .unset, .unset] [])) _
        refine XS.iconst X0.here hx rfl (hb hby at_10) ?_
        show Steps _ _ _ (s₁.setTop (mkF m 11 #[vI p1, vI p2, vI 0, .unset, .unset, .unset, .unset, .unset] [iI 1])) _
        refine XS.goto X0.here hx rfl (pc0 := 11) (pc' := 15) rfl (hb hby at_11) (by decide) (by decide) ?_
        exact kt
    have qb : v3 = 1 ∨ v3 = 0 := by rw [hv3]; split <;> simp
    have pre6 : ∀ t, Steps p.tables e below (T4.setTop (mkF m 16 #[vI p1, vI p2, vI 0, vI v3, .unset, .unset, .unset, .unset] [])) t → Steps p.tables e below (s₁.setTop (entryFrame m #[(.int p1), (.int p2)] maxLocals)) t := by
      intro t kt
      refine pre2 t ?_
      show Steps _ _ _ (s₁.setTop (mkF m 4 #[vI p1, vI p2, vI 0, .unset, .unset, .unset, .unset, .unset] [])) _
      refine XS.iloadN X0.here hx rfl (hb hby at_4) rfl ?_
      show Steps _ _ _ (s₁.setTop (mkF m 5 #[vI p1, vI p2, vI 0, .unset, .unset, .unset, .unset, .unset] [iI p2])) _
      refine XS.iconst X0.here hx rfl (hb hby at_5) ?_
      show Steps _ _ _ (s₁.setTop (mkF m 6 #[vI p1, vI p2, vI 0, .unset, .unset, .unset, .unset, .unset] [iI 1, iI p2])) _
      refine XS.iand X0.here hx rfl (hb hby at_6) rfl ?_
      show Steps _ _ _ (s₁.setTop (mkF m 7 #[vI p1, vI p2, vI 0, .unset, .unset, .unset, .unset, .unset] [iI (p2 &&& (1 : Int32))])) _
      refine st4 _ ?_
      show Steps _ _ _ (T4.setTop (mkF m 15 #[vI p1, vI p2, vI 0, .unset, .unset, .unset, .unset, .unset] [iI v3])) _
      refine XS.istoreN X4.here hx rfl (hb hby at_15) rfl (l' := #[vI p1, vI p2, vI 0, vI v3, .unset, .unset, .unset, .unset]) rfl ?_
      exact kt
    rcases qb with rfl | rfl
    · obtain ⟨_, _, ⟨T7, L7, k7, n7⟩, -, X7, ⟨Lc7, hQ7, l7, y7, z7⟩, st7⟩ := Jvm.LawKit.callS X4 hx (y := (⟨"com/example/columngen/columngen/workload/CardinalityToManyPinLaw", "pick", "(I)Lcom/example/columngen/columngen/workload/Cardinality;"⟩ : MethodName)) hown (mvT hZ (hw _ (List.mem_of_getElem? (i := 0) rfl))) (mvT hZ (hw _ (List.mem_of_getElem? (i := 1) rfl))) (mvT hZ (hw _ (List.mem_of_getElem? (i := 2) rfl))) (mvT hZ (hw _ (List.mem_of_getElem? (i := 3) rfl))) (by decide) (backOf (W := 0) (rm1_0 l Z a0 hw []  s_ONE_TO_ONE s_MANY_TO_ONE s_ONE_TO_MANY s_MANY_TO_MANY h0 S_ONE_TO_ONE E_ONE_TO_ONE F_manyOfTarget_ONE_TO_ONE S_MANY_TO_ONE E_MANY_TO_ONE F_manyOfTarget_MANY_TO_ONE F_manyOfSource_ONE_TO_ONE S_ONE_TO_MANY E_ONE_TO_MANY F_manyOfTarget_ONE_TO_MANY F_manyOfSource_MANY_TO_ONE S_MANY_TO_MANY E_MANY_TO_MANY F_manyOfSource_MANY_TO_MANY F_manyOfTarget_MANY_TO_MANY F_manyOfSource_ONE_TO_MANY) hZ (hw _ (List.mem_of_getElem? (i := 3) rfl)) (hw _ (List.mem_of_getElem? (i := 2) rfl)) (by decide) (by decide)) (g := (mkF m 17 #[vI p1, vI p2, vI 0, vI 1, .unset, .unset, .unset, .unset] [iI 0])) rfl (by rw [hml]; rfl) (argsL := [(.int (0 : Int32))]) (rest := []) (lenOf pd_0 rfl) rfl (by show 2 * 0 + _ ≤ _; exact Nat.le_of_eq rfl) (hb hby at_17) (fun _ _ => ⟨rfl, e4, (by decide : 0 + 0 ≤ _), (by decide : 0 + 0 ≤ _)⟩)
      dsimp only [Pt.U, Pt.locs, Pt.cells, Pt.slots] at X7 l7 y7 z7 st7 hQ7
      subst l7 y7 z7
      obtain ⟨rfl, rfl, e7⟩ := hQ7
      try rw [List.append_nil] at X7
      obtain ⟨cq8, kq8, q8a, q8b, q8c⟩ := isOf hZ e7 E_ONE_TO_ONE
      obtain ⟨_, _, ⟨T8, L8, k8, n8⟩, -, X8, ⟨Lc8, hQ8, l8, y8, z8⟩, st8⟩ := X7.virtualBack hx (y := (⟨"com/example/columngen/columngen/workload/Cardinality", "toMany", "(Z)Z"⟩ : MethodName)) (z := (⟨"com/example/columngen/columngen/workload/Cardinality", "toMany", "(Z)Z"⟩ : MethodName)) hown (mvT hZ (hw _ (List.mem_of_getElem? (i := 7) rfl))) (mvT hZ (hw _ (List.mem_of_getElem? (i := 8) rfl))) (notFace_of_selects (args := #[]) (mvT hZ (hw _ (List.mem_of_getElem? (i := 10) rfl)))) (mvT hZ (hw _ (List.mem_of_getElem? (i := 10) rfl))) (mvT hZ (hw _ (List.mem_of_getElem? (i := 9) rfl))) (by decide) (backOf (W := 0) (rm2_0_1 l Z a0 hw []  s_ONE_TO_ONE s_MANY_TO_ONE s_ONE_TO_MANY s_MANY_TO_MANY h0 S_ONE_TO_ONE E_ONE_TO_ONE F_manyOfTarget_ONE_TO_ONE S_MANY_TO_ONE E_MANY_TO_ONE F_manyOfTarget_MANY_TO_ONE F_manyOfSource_ONE_TO_ONE S_ONE_TO_MANY E_ONE_TO_MANY F_manyOfTarget_ONE_TO_MANY F_manyOfSource_MANY_TO_ONE S_MANY_TO_MANY E_MANY_TO_MANY F_manyOfSource_MANY_TO_MANY F_manyOfTarget_MANY_TO_MANY F_manyOfSource_ONE_TO_MANY) hZ (hw _ (List.mem_of_getElem? (i := 11) rfl)) (hw _ (List.mem_of_getElem? (i := 5) rfl)) (by decide) (by decide)) q8a q8c (g := (mkF m 74 #[vI p1, vI p2, vI 0, vI 1, vR s_ONE_TO_ONE, vI 0, vI 0, vI 0] [iI 1, iR s_ONE_TO_ONE])) rfl (by rw [hml]; rfl) (Steps.refl _) (argsL := [(.int (1 : Int32))]) (rest := []) (lenOf pd_1 rfl) rfl (by show 2 * 0 + _ ≤ _; exact Nat.le_of_eq rfl) (hb hby at_74) (fun _ _ => ⟨rfl, e7, (by decide : 0 + 0 ≤ _), (by decide : 0 + 0 ≤ _)⟩)
      dsimp only [Pt.U, Pt.locs, Pt.cells, Pt.slots] at X8 l8 y8 z8 st8 hQ8
      subst l8 y8 z8
      obtain ⟨rfl, rfl, e8⟩ := hQ8
      try rw [List.append_nil] at X8
      obtain ⟨fs, hr, hrun, hended, hW, hsame⟩ := X8.leave (v := some (.int (1 : Int32))) (fun h => by rw [Bd.returns] at h; cases h)
      refine ⟨_, _, pre6 _ ?_, hrun, hended, _, _, rfl, ?_, ⟨_, rfl⟩, hW, hsame.mono (by decide) (by decide)⟩
      · show Steps _ _ _ (T4.setTop (mkF m 16 #[vI p1, vI p2, vI 0, vI 1, .unset, .unset, .unset, .unset] [])) _
        refine XS.iloadN X4.here hx rfl (hb hby at_16) rfl ?_
        show Steps _ _ _ (T4.setTop (mkF m 17 #[vI p1, vI p2, vI 0, vI 1, .unset, .unset, .unset, .unset] [iI 0])) _
        refine st7 _ ?_
        show Steps _ _ _ (T7.setTop (mkF m 20 #[vI p1, vI p2, vI 0, vI 1, .unset, .unset, .unset, .unset] [iR s_ONE_TO_ONE])) _
        refine XS.astore X7.here hx rfl (hb hby at_20) rfl rfl (l' := #[vI p1, vI p2, vI 0, vI 1, vR s_ONE_TO_ONE, .unset, .unset, .unset]) rfl ?_
        show Steps _ _ _ (T7.setTop (mkF m 22 #[vI p1, vI p2, vI 0, vI 1, vR s_ONE_TO_ONE, .unset, .unset, .unset] [])) _
        refine XS.iloadN X7.here hx rfl (hb hby at_22) rfl ?_
        show Steps _ _ _ (T7.setTop (mkF m 23 #[vI p1, vI p2, vI 0, vI 1, vR s_ONE_TO_ONE, .unset, .unset, .unset] [iI 0])) _
        refine XS.iconst X7.here hx rfl (hb hby at_23) ?_
        show Steps _ _ _ (T7.setTop (mkF m 24 #[vI p1, vI p2, vI 0, vI 1, vR s_ONE_TO_ONE, .unset, .unset, .unset] [iI 2, iI 0])) _
        refine XS.icmpNo X7.here hx rfl (hb hby at_24) rfl (feq (by decide : ¬ ((0 : Int32) = (2 : Int32)))).1 ?_
        show Steps _ _ _ (T7.setTop (mkF m 27 #[vI p1, vI p2, vI 0, vI 1, vR s_ONE_TO_ONE, .unset, .unset, .unset] [])) _
        refine XS.iloadN X7.here hx rfl (hb hby at_27) rfl ?_
        show Steps _ _ _ (T7.setTop (mkF m 28 #[vI p1, vI p2, vI 0, vI 1, vR s_ONE_TO_ONE, .unset, .unset, .unset] [iI 0])) _
        refine XS.iconst X7.here hx rfl (hb hby at_28) ?_
        show Steps _ _ _ (T7.setTop (mkF m 29 #[vI p1, vI p2, vI 0, vI 1, vR s_ONE_TO_ONE, .unset, .unset, .unset] [iI 3, iI 0])) _
        refine XS.icmpYes X7.here hx rfl (pc0 := 29) (pc' := 36) rfl (hb hby at_29) rfl (feq (by decide : ¬ ((0 : Int32) = (3 : Int32)))).2 (by decide) (by decide) ?_
        show Steps _ _ _ (T7.setTop (mkF m 36 #[vI p1, vI p2, vI 0, vI 1, vR s_ONE_TO_ONE, .unset, .unset, .unset] [])) _
        refine XS.iconst X7.here hx rfl (hb hby at_36) ?_
        show Steps _ _ _ (T7.setTop (mkF m 37 #[vI p1, vI p2, vI 0, vI 1, vR s_ONE_TO_ONE, .unset, .unset, .unset] [iI 0])) _
        refine XS.istore X7.here hx rfl (hb hby at_37) rfl (l' := #[vI p1, vI p2, vI 0, vI 1, vR s_ONE_TO_ONE, vI 0, .unset, .unset]) rfl ?_
        show Steps _ _ _ (T7.setTop (mkF m 39 #[vI p1, vI p2, vI 0, vI 1, vR s_ONE_TO_ONE, vI 0, .unset, .unset] [])) _
        refine XS.iloadN X7.here hx rfl (hb hby at_39) rfl ?_
        show Steps _ _ _ (T7.setTop (mkF m 40 #[vI p1, vI p2, vI 0, vI 1, vR s_ONE_TO_ONE, vI 0, .unset, .unset] [iI 0])) _
        refine XS.iconst X7.here hx rfl (hb hby at_40) ?_
        show Steps _ _ _ (T7.setTop (mkF m 41 #[vI p1, vI p2, vI 0, vI 1, vR s_ONE_TO_ONE, vI 0, .unset, .unset] [iI 1, iI 0])) _
        refine XS.icmpNo X7.here hx rfl (hb hby at_41) rfl (feq (by decide : ¬ ((0 : Int32) = (1 : Int32)))).1 ?_
        show Steps _ _ _ (T7.setTop (mkF m 44 #[vI p1, vI p2, vI 0, vI 1, vR s_ONE_TO_ONE, vI 0, .unset, .unset] [])) _
        refine XS.iloadN X7.here hx rfl (hb hby at_44) rfl ?_
        show Steps _ _ _ (T7.setTop (mkF m 45 #[vI p1, vI p2, vI 0, vI 1, vR s_ONE_TO_ONE, vI 0, .unset, .unset] [iI 0])) _
        refine XS.iconst X7.here hx rfl (hb hby at_45) ?_
        show Steps _ _ _ (T7.setTop (mkF m 46 #[vI p1, vI p2, vI 0, vI 1, vR s_ONE_TO_ONE, vI 0, .unset, .unset] [iI 3, iI 0])) _
        refine XS.icmpYes X7.here hx rfl (pc0 := 46) (pc' := 53) rfl (hb hby at_46) rfl (feq (by decide : ¬ ((0 : Int32) = (3 : Int32)))).2 (by decide) (by decide) ?_
        show Steps _ _ _ (T7.setTop (mkF m 53 #[vI p1, vI p2, vI 0, vI 1, vR s_ONE_TO_ONE, vI 0, .unset, .unset] [])) _
        refine XS.iconst X7.here hx rfl (hb hby at_53) ?_
        show Steps _ _ _ (T7.setTop (mkF m 54 #[vI p1, vI p2, vI 0, vI 1, vR s_ONE_TO_ONE, vI 0, .unset, .unset] [iI 0])) _
        refine XS.istore X7.here hx rfl (hb hby at_54) rfl (l' := #[vI p1, vI p2, vI 0, vI 1, vR s_ONE_TO_ONE, vI 0, vI 0, .unset]) rfl ?_
        show Steps _ _ _ (T7.setTop (mkF m 56 #[vI p1, vI p2, vI 0, vI 1, vR s_ONE_TO_ONE, vI 0, vI 0, .unset] [])) _
        refine XS.iloadN X7.here hx rfl (hb hby at_56) rfl ?_
        show Steps _ _ _ (T7.setTop (mkF m 57 #[vI p1, vI p2, vI 0, vI 1, vR s_ONE_TO_ONE, vI 0, vI 0, .unset] [iI 1])) _
        refine XS.ifNo X7.here hx rfl (hb hby at_57) rfl ((if0 _ _).trans (feq (by decide : ¬ ((1 : Int32) = (0 : Int32)))).1) ?_
        show Steps _ _ _ (T7.setTop (mkF m 60 #[vI p1, vI p2, vI 0, vI 1, vR s_ONE_TO_ONE, vI 0, vI 0, .unset] [])) _
        refine XS.iload X7.here hx rfl (hb hby at_60) rfl ?_
        show Steps _ _ _ (T7.setTop (mkF m 62 #[vI p1, vI p2, vI 0, vI 1, vR s_ONE_TO_ONE, vI 0, vI 0, .unset] [iI 0])) _
        refine XS.istore X7.here hx rfl (hb hby at_62) rfl (l' := #[vI p1, vI p2, vI 0, vI 1, vR s_ONE_TO_ONE, vI 0, vI 0, vI 0]) rfl ?_
        show Steps _ _ _ (T7.setTop (mkF m 64 #[vI p1, vI p2, vI 0, vI 1, vR s_ONE_TO_ONE, vI 0, vI 0, vI 0] [])) _
        refine XS.goto X7.here hx rfl (pc0 := 64) (pc' := 71) rfl (hb hby at_64) (by decide) (by decide) ?_
        show Steps _ _ _ (T7.setTop (mkF m 71 #[vI p1, vI p2, vI 0, vI 1, vR s_ONE_TO_ONE, vI 0, vI 0, vI 0] [])) _
        refine XS.aload X7.here hx rfl (hb hby at_71) rfl rfl ?_
        show Steps _ _ _ (T7.setTop (mkF m 73 #[vI p1, vI p2, vI 0, vI 1, vR s_ONE_TO_ONE, vI 0, vI 0, vI 0] [iR s_ONE_TO_ONE])) _
        refine XS.iloadN X7.here hx rfl (hb hby at_73) rfl ?_
        show Steps _ _ _ (T7.setTop (mkF m 74 #[vI p1, vI p2, vI 0, vI 1, vR s_ONE_TO_ONE, vI 0, vI 0, vI 0] [iI 1, iR s_ONE_TO_ONE])) _
        refine st8.trans ?_
        show Steps _ _ _ (T8.setTop (mkF m 77 #[vI p1, vI p2, vI 0, vI 1, vR s_ONE_TO_ONE, vI 0, vI 0, vI 0] [iI 0])) _
        refine XS.iload X8.here hx rfl (hb hby at_77) rfl ?_
        show Steps _ _ _ (T8.setTop (mkF m 79 #[vI p1, vI p2, vI 0, vI 1, vR s_ONE_TO_ONE, vI 0, vI 0, vI 0] [iI 0, iI 0])) _
        refine XS.icmpNo X8.here hx rfl (hb hby at_79) rfl (teq (by decide : (0 : Int32) = (0 : Int32))).2 ?_
        show Steps _ _ _ (T8.setTop (mkF m 82 #[vI p1, vI p2, vI 0, vI 1, vR s_ONE_TO_ONE, vI 0, vI 0, vI 0] [])) _
        refine XS.iconst X8.here hx rfl (hb hby at_82) ?_
        show Steps _ _ _ (T8.setTop (mkF m 83 #[vI p1, vI p2, vI 0, vI 1, vR s_ONE_TO_ONE, vI 0, vI 0, vI 0] [iI 1])) _
        refine XS.goto X8.here hx rfl (pc0 := 83) (pc' := 87) rfl (hb hby at_83) (by decide) (by decide) ?_
        show Steps _ _ _ (T8.setTop (mkF m 87 #[vI p1, vI p2, vI 0, vI 1, vR s_ONE_TO_ONE, vI 0, vI 0, vI 0] [iI 1])) _
        exact retN X8 hx (t := .boolean) Bd.returns (by simp) (hb hby at_87) hr
      · show Q0 Z p1 p2 s_ONE_TO_ONE s_MANY_TO_ONE s_ONE_TO_MANY s_MANY_TO_MANY h0 _ T8.heap _
        rw [e8]
        exact ⟨rfl, rfl, rfl⟩
    · obtain ⟨_, _, ⟨T9, L9, k9, n9⟩, -, X9, ⟨Lc9, hQ9, l9, y9, z9⟩, st9⟩ := Jvm.LawKit.callS X4 hx (y := (⟨"com/example/columngen/columngen/workload/CardinalityToManyPinLaw", "pick", "(I)Lcom/example/columngen/columngen/workload/Cardinality;"⟩ : MethodName)) hown (mvT hZ (hw _ (List.mem_of_getElem? (i := 0) rfl))) (mvT hZ (hw _ (List.mem_of_getElem? (i := 1) rfl))) (mvT hZ (hw _ (List.mem_of_getElem? (i := 2) rfl))) (mvT hZ (hw _ (List.mem_of_getElem? (i := 3) rfl))) (by decide) (backOf (W := 0) (rm1_0 l Z a0 hw []  s_ONE_TO_ONE s_MANY_TO_ONE s_ONE_TO_MANY s_MANY_TO_MANY h0 S_ONE_TO_ONE E_ONE_TO_ONE F_manyOfTarget_ONE_TO_ONE S_MANY_TO_ONE E_MANY_TO_ONE F_manyOfTarget_MANY_TO_ONE F_manyOfSource_ONE_TO_ONE S_ONE_TO_MANY E_ONE_TO_MANY F_manyOfTarget_ONE_TO_MANY F_manyOfSource_MANY_TO_ONE S_MANY_TO_MANY E_MANY_TO_MANY F_manyOfSource_MANY_TO_MANY F_manyOfTarget_MANY_TO_MANY F_manyOfSource_ONE_TO_MANY) hZ (hw _ (List.mem_of_getElem? (i := 3) rfl)) (hw _ (List.mem_of_getElem? (i := 2) rfl)) (by decide) (by decide)) (g := (mkF m 17 #[vI p1, vI p2, vI 0, vI 0, .unset, .unset, .unset, .unset] [iI 0])) rfl (by rw [hml]; rfl) (argsL := [(.int (0 : Int32))]) (rest := []) (lenOf pd_0 rfl) rfl (by show 2 * 0 + _ ≤ _; exact Nat.le_of_eq rfl) (hb hby at_17) (fun _ _ => ⟨rfl, e4, (by decide : 0 + 0 ≤ _), (by decide : 0 + 0 ≤ _)⟩)
      dsimp only [Pt.U, Pt.locs, Pt.cells, Pt.slots] at X9 l9 y9 z9 st9 hQ9
      subst l9 y9 z9
      obtain ⟨rfl, rfl, e9⟩ := hQ9
      try rw [List.append_nil] at X9
      obtain ⟨cq10, kq10, q10a, q10b, q10c⟩ := isOf hZ e9 E_ONE_TO_ONE
      obtain ⟨_, _, ⟨T10, L10, k10, n10⟩, -, X10, ⟨Lc10, hQ10, l10, y10, z10⟩, st10⟩ := X9.virtualBack hx (y := (⟨"com/example/columngen/columngen/workload/Cardinality", "toMany", "(Z)Z"⟩ : MethodName)) (z := (⟨"com/example/columngen/columngen/workload/Cardinality", "toMany", "(Z)Z"⟩ : MethodName)) hown (mvT hZ (hw _ (List.mem_of_getElem? (i := 7) rfl))) (mvT hZ (hw _ (List.mem_of_getElem? (i := 8) rfl))) (notFace_of_selects (args := #[]) (mvT hZ (hw _ (List.mem_of_getElem? (i := 10) rfl)))) (mvT hZ (hw _ (List.mem_of_getElem? (i := 10) rfl))) (mvT hZ (hw _ (List.mem_of_getElem? (i := 9) rfl))) (by decide) (backOf (W := 0) (rm2_0_0 l Z a0 hw []  s_ONE_TO_ONE s_MANY_TO_ONE s_ONE_TO_MANY s_MANY_TO_MANY h0 S_ONE_TO_ONE E_ONE_TO_ONE F_manyOfTarget_ONE_TO_ONE S_MANY_TO_ONE E_MANY_TO_ONE F_manyOfTarget_MANY_TO_ONE F_manyOfSource_ONE_TO_ONE S_ONE_TO_MANY E_ONE_TO_MANY F_manyOfTarget_ONE_TO_MANY F_manyOfSource_MANY_TO_ONE S_MANY_TO_MANY E_MANY_TO_MANY F_manyOfSource_MANY_TO_MANY F_manyOfTarget_MANY_TO_MANY F_manyOfSource_ONE_TO_MANY) hZ (hw _ (List.mem_of_getElem? (i := 11) rfl)) (hw _ (List.mem_of_getElem? (i := 5) rfl)) (by decide) (by decide)) q10a q10c (g := (mkF m 74 #[vI p1, vI p2, vI 0, vI 0, vR s_ONE_TO_ONE, vI 0, vI 0, vI 0] [iI 0, iR s_ONE_TO_ONE])) rfl (by rw [hml]; rfl) (Steps.refl _) (argsL := [(.int (0 : Int32))]) (rest := []) (lenOf pd_1 rfl) rfl (by show 2 * 0 + _ ≤ _; exact Nat.le_of_eq rfl) (hb hby at_74) (fun _ _ => ⟨rfl, e9, (by decide : 0 + 0 ≤ _), (by decide : 0 + 0 ≤ _)⟩)
      dsimp only [Pt.U, Pt.locs, Pt.cells, Pt.slots] at X10 l10 y10 z10 st10 hQ10
      subst l10 y10 z10
      obtain ⟨rfl, rfl, e10⟩ := hQ10
      try rw [List.append_nil] at X10
      obtain ⟨fs, hr, hrun, hended, hW, hsame⟩ := X10.leave (v := some (.int (1 : Int32))) (fun h => by rw [Bd.returns] at h; cases h)
      refine ⟨_, _, pre6 _ ?_, hrun, hended, _, _, rfl, ?_, ⟨_, rfl⟩, hW, hsame.mono (by decide) (by decide)⟩
      · show Steps _ _ _ (T4.setTop (mkF m 16 #[vI p1, vI p2, vI 0, vI 0, .unset, .unset, .unset, .unset] [])) _
        refine XS.iloadN X4.here hx rfl (hb hby at_16) rfl ?_
        show Steps _ _ _ (T4.setTop (mkF m 17 #[vI p1, vI p2, vI 0, vI 0, .unset, .unset, .unset, .unset] [iI 0])) _
        refine st9 _ ?_
        show Steps _ _ _ (T9.setTop (mkF m 20 #[vI p1, vI p2, vI 0, vI 0, .unset, .unset, .unset, .unset] [iR s_ONE_TO_ONE])) _
        refine XS.astore X9.here hx rfl (hb hby at_20) rfl rfl (l' := #[vI p1, vI p2, vI 0, vI 0, vR s_ONE_TO_ONE, .unset, .unset, .unset]) rfl ?_
        show Steps _ _ _ (T9.setTop (mkF m 22 #[vI p1, vI p2, vI 0, vI 0, vR s_ONE_TO_ONE, .unset, .unset, .unset] [])) _
        refine XS.iloadN X9.here hx rfl (hb hby at_22) rfl ?_
        show Steps _ _ _ (T9.setTop (mkF m 23 #[vI p1, vI p2, vI 0, vI 0, vR s_ONE_TO_ONE, .unset, .unset, .unset] [iI 0])) _
        refine XS.iconst X9.here hx rfl (hb hby at_23) ?_
        show Steps _ _ _ (T9.setTop (mkF m 24 #[vI p1, vI p2, vI 0, vI 0, vR s_ONE_TO_ONE, .unset, .unset, .unset] [iI 2, iI 0])) _
        refine XS.icmpNo X9.here hx rfl (hb hby at_24) rfl (feq (by decide : ¬ ((0 : Int32) = (2 : Int32)))).1 ?_
        show Steps _ _ _ (T9.setTop (mkF m 27 #[vI p1, vI p2, vI 0, vI 0, vR s_ONE_TO_ONE, .unset, .unset, .unset] [])) _
        refine XS.iloadN X9.here hx rfl (hb hby at_27) rfl ?_
        show Steps _ _ _ (T9.setTop (mkF m 28 #[vI p1, vI p2, vI 0, vI 0, vR s_ONE_TO_ONE, .unset, .unset, .unset] [iI 0])) _
        refine XS.iconst X9.here hx rfl (hb hby at_28) ?_
        show Steps _ _ _ (T9.setTop (mkF m 29 #[vI p1, vI p2, vI 0, vI 0, vR s_ONE_TO_ONE, .unset, .unset, .unset] [iI 3, iI 0])) _
        refine XS.icmpYes X9.here hx rfl (pc0 := 29) (pc' := 36) rfl (hb hby at_29) rfl (feq (by decide : ¬ ((0 : Int32) = (3 : Int32)))).2 (by decide) (by decide) ?_
        show Steps _ _ _ (T9.setTop (mkF m 36 #[vI p1, vI p2, vI 0, vI 0, vR s_ONE_TO_ONE, .unset, .unset, .unset] [])) _
        refine XS.iconst X9.here hx rfl (hb hby at_36) ?_
        show Steps _ _ _ (T9.setTop (mkF m 37 #[vI p1, vI p2, vI 0, vI 0, vR s_ONE_TO_ONE, .unset, .unset, .unset] [iI 0])) _
        refine XS.istore X9.here hx rfl (hb hby at_37) rfl (l' := #[vI p1, vI p2, vI 0, vI 0, vR s_ONE_TO_ONE, vI 0, .unset, .unset]) rfl ?_
        show Steps _ _ _ (T9.setTop (mkF m 39 #[vI p1, vI p2, vI 0, vI 0, vR s_ONE_TO_ONE, vI 0, .unset, .unset] [])) _
        refine XS.iloadN X9.here hx rfl (hb hby at_39) rfl ?_
        show Steps _ _ _ (T9.setTop (mkF m 40 #[vI p1, vI p2, vI 0, vI 0, vR s_ONE_TO_ONE, vI 0, .unset, .unset] [iI 0])) _
        refine XS.iconst X9.here hx rfl (hb hby at_40) ?_
        show Steps _ _ _ (T9.setTop (mkF m 41 #[vI p1, vI p2, vI 0, vI 0, vR s_ONE_TO_ONE, vI 0, .unset, .unset] [iI 1, iI 0])) _
        refine XS.icmpNo X9.here hx rfl (hb hby at_41) rfl (feq (by decide : ¬ ((0 : Int32) = (1 : Int32)))).1 ?_
        show Steps _ _ _ (T9.setTop (mkF m 44 #[vI p1, vI p2, vI 0, vI 0, vR s_ONE_TO_ONE, vI 0, .unset, .unset] [])) _
        refine XS.iloadN X9.here hx rfl (hb hby at_44) rfl ?_
        show Steps _ _ _ (T9.setTop (mkF m 45 #[vI p1, vI p2, vI 0, vI 0, vR s_ONE_TO_ONE, vI 0, .unset, .unset] [iI 0])) _
        refine XS.iconst X9.here hx rfl (hb hby at_45) ?_
        show Steps _ _ _ (T9.setTop (mkF m 46 #[vI p1, vI p2, vI 0, vI 0, vR s_ONE_TO_ONE, vI 0, .unset, .unset] [iI 3, iI 0])) _
        refine XS.icmpYes X9.here hx rfl (pc0 := 46) (pc' := 53) rfl (hb hby at_46) rfl (feq (by decide : ¬ ((0 : Int32) = (3 : Int32)))).2 (by decide) (by decide) ?_
        show Steps _ _ _ (T9.setTop (mkF m 53 #[vI p1, vI p2, vI 0, vI 0, vR s_ONE_TO_ONE, vI 0, .unset, .unset] [])) _
        refine XS.iconst X9.here hx rfl (hb hby at_53) ?_
        show Steps _ _ _ (T9.setTop (mkF m 54 #[vI p1, vI p2, vI 0, vI 0, vR s_ONE_TO_ONE, vI 0, .unset, .unset] [iI 0])) _
        refine XS.istore X9.here hx rfl (hb hby at_54) rfl (l' := #[vI p1, vI p2, vI 0, vI 0, vR s_ONE_TO_ONE, vI 0, vI 0, .unset]) rfl ?_
        show Steps _ _ _ (T9.setTop (mkF m 56 #[vI p1, vI p2, vI 0, vI 0, vR s_ONE_TO_ONE, vI 0, vI 0, .unset] [])) _
        refine XS.iloadN X9.here hx rfl (hb hby at_56) rfl ?_
        show Steps _ _ _ (T9.setTop (mkF m 57 #[vI p1, vI p2, vI 0, vI 0, vR s_ONE_TO_ONE, vI 0, vI 0, .unset] [iI 0])) _
        refine XS.ifYes X9.here hx rfl (pc0 := 57) (pc' := 67) rfl (hb hby at_57) rfl ((if0 _ _).trans (teq (by decide : (0 : Int32) = (0 : Int32))).1) (by decide) (by decide) ?_
        show Steps _ _ _ (T9.setTop (mkF m 67 #[vI p1, vI p2, vI 0, vI 0, vR s_ONE_TO_ONE, vI 0, vI 0, .unset] [])) _
        refine XS.iload X9.here hx rfl (hb hby at_67) rfl ?_
        show Steps _ _ _ (T9.setTop (mkF m 69 #[vI p1, vI p2, vI 0, vI 0, vR s_ONE_TO_ONE, vI 0, vI 0, .unset] [iI 0])) _
        refine XS.istore X9.here hx rfl (hb hby at_69) rfl (l' := #[vI p1, vI p2, vI 0, vI 0, vR s_ONE_TO_ONE, vI 0, vI 0, vI 0]) rfl ?_
        show Steps _ _ _ (T9.setTop (mkF m 71 #[vI p1, vI p2, vI 0, vI 0, vR s_ONE_TO_ONE, vI 0, vI 0, vI 0] [])) _
        refine XS.aload X9.here hx rfl (hb hby at_71) rfl rfl ?_
        show Steps _ _ _ (T9.setTop (mkF m 73 #[vI p1, vI p2, vI 0, vI 0, vR s_ONE_TO_ONE, vI 0, vI 0, vI 0] [iR s_ONE_TO_ONE])) _
        refine XS.iloadN X9.here hx rfl (hb hby at_73) rfl ?_
        show Steps _ _ _ (T9.setTop (mkF m 74 #[vI p1, vI p2, vI 0, vI 0, vR s_ONE_TO_ONE, vI 0, vI 0, vI 0] [iI 0, iR s_ONE_TO_ONE])) _
        refine st10.trans ?_
        show Steps _ _ _ (T10.setTop (mkF m 77 #[vI p1, vI p2, vI 0, vI 0, vR s_ONE_TO_ONE, vI 0, vI 0, vI 0] [iI 0])) _
        refine XS.iload X10.here hx rfl (hb hby at_77) rfl ?_
        show Steps _ _ _ (T10.setTop (mkF m 79 #[vI p1, vI p2, vI 0, vI 0, vR s_ONE_TO_ONE, vI 0, vI 0, vI 0] [iI 0, iI 0])) _
        refine XS.icmpNo X10.here hx rfl (hb hby at_79) rfl (teq (by decide : (0 : Int32) = (0 : Int32))).2 ?_
        show Steps _ _ _ (T10.setTop (mkF m 82 #[vI p1, vI p2, vI 0, vI 0, vR s_ONE_TO_ONE, vI 0, vI 0, vI 0] [])) _
        refine XS.iconst X10.here hx rfl (hb hby at_82) ?_
        show Steps _ _ _ (T10.setTop (mkF m 83 #[vI p1, vI p2, vI 0, vI 0, vR s_ONE_TO_ONE, vI 0, vI 0, vI 0] [iI 1])) _
        refine XS.goto X10.here hx rfl (pc0 := 83) (pc' := 87) rfl (hb hby at_83) (by decide) (by decide) ?_
        show Steps _ _ _ (T10.setTop (mkF m 87 #[vI p1, vI p2, vI 0, vI 0, vR s_ONE_TO_ONE, vI 0, vI 0, vI 0] [iI 1])) _
        exact retN X10 hx (t := .boolean) Bd.returns (by simp) (hb hby at_87) hr
      · show Q0 Z p1 p2 s_ONE_TO_ONE s_MANY_TO_ONE s_ONE_TO_MANY s_MANY_TO_MANY h0 _ T10.heap _
        rw [e10]
        exact ⟨rfl, rfl, rfl⟩
  · obtain ⟨v11, hv11⟩ : ∃ z : Int32, z = (if (p2 &&& (1 : Int32)) = (0 : Int32) then (0 : Int32) else (1 : Int32)) := ⟨_, rfl⟩
    obtain ⟨T12, X12, e12, st12⟩ : own_Mid X0 h0 (mkF m 7 #[vI p1, vI p2, vI 1, .unset, .unset, .unset, .unset, .unset] [iI (p2 &&& (1 : Int32))]) (mkF m 15 #[vI p1, vI p2, vI 1, .unset, .unset, .unset, .unset, .unset] [iI v11]) := by
      by_cases hc13 : (p2 &&& (1 : Int32)) = (0 : Int32)
      · refine ⟨s₁, X0, e0, fun t kt => ?_⟩
        subst hv11
        simp only [if_pos hc13] at kt
        show Steps _ _ _ (s₁.setTop (mkF m 7 #[vI p1, vI p2, vI 1, .unset, .unset, .unset, .unset, .unset] [iI (p2 &&& (1 : Int32))])) _
        refine XS.ifYes X0.here hx rfl (pc0 := 7) (pc' := 14) rfl (hb hby at_7) rfl ((if0 _ _).trans (teq hc13).1) (by decide) (by decide) ?_
        show Steps _ _ _ (s₁.setTop (mkF m 14 #[vI p1, vI p2, vI 1, .unset, .unset, .unset, .unset, .unset] [])) _
        refine XS.iconst X0.here hx rfl (hb hby at_14) ?_
        exact kt
      · refine ⟨s₁, X0, e0, fun t kt => ?_⟩
        subst hv11
        simp only [if_neg hc13] at kt
        show Steps _ _ _ (s₁.setTop (mkF m 7 #[vI p1, vI p2, vI 1, .unset, .unset, .unset, .unset, .unset] [iI (p2 &&& (1 : Int32))])) _
        refine XS.ifNo X0.here hx rfl (hb hby at_7) rfl ((if0 _ _).trans (feq hc13).1) ?_
        show Steps _ _ _ (s₁.setTop (mkF m 10 #[vI p1, vI p2, vI 1, .unset, .unset, .unset, .unset, .unset] [])) _
        refine XS.iconst X0.here hx rfl (hb hby at_10) ?_
        show Steps _ _ _ (s₁.setTop (mkF m 11 #[vI p1, vI p2, vI 1, .unset, .unset, .unset, .unset, .unset] [iI 1])) _
        refine XS.goto X0.here hx rfl (pc0 := 11) (pc' := 15) rfl (hb hby at_11) (by decide) (by decide) ?_
        exact kt
    have qb : v11 = 1 ∨ v11 = 0 := by rw [hv11]; split <;> simp
    have pre14 : ∀ t, Steps p.tables e below (T12.setTop (mkF m 16 #[vI p1, vI p2, vI 1, vI v11, .unset, .unset, .unset, .unset] [])) t → Steps p.tables e below (s₁.setTop (entryFrame m #[(.int p1), (.int p2)] maxLocals)) t := by
      intro t kt
      refine pre2 t ?_
      show Steps _ _ _ (s₁.setTop (mkF m 4 #[vI p1, vI p2, vI 1, .unset, .unset, .unset, .unset, .unset] [])) _
      refine XS.iloadN X0.here hx rfl (hb hby at_4) rfl ?_
      show Steps _ _ _ (s₁.setTop (mkF m 5 #[vI p1, vI p2, vI 1, .unset, .unset, .unset, .unset, .unset] [iI p2])) _
      refine XS.iconst X0.here hx rfl (hb hby at_5) ?_
      show Steps _ _ _ (s₁.setTop (mkF m 6 #[vI p1, vI p2, vI 1, .unset, .unset, .unset, .unset, .unset] [iI 1, iI p2])) _
      refine XS.iand X0.here hx rfl (hb hby at_6) rfl ?_
      show Steps _ _ _ (s₁.setTop (mkF m 7 #[vI p1, vI p2, vI 1, .unset, .unset, .unset, .unset, .unset] [iI (p2 &&& (1 : Int32))])) _
      refine st12 _ ?_
      show Steps _ _ _ (T12.setTop (mkF m 15 #[vI p1, vI p2, vI 1, .unset, .unset, .unset, .unset, .unset] [iI v11])) _
      refine XS.istoreN X12.here hx rfl (hb hby at_15) rfl (l' := #[vI p1, vI p2, vI 1, vI v11, .unset, .unset, .unset, .unset]) rfl ?_
      exact kt
    rcases qb with rfl | rfl
    · obtain ⟨_, _, ⟨T15, L15, k15, n15⟩, -, X15, ⟨Lc15, hQ15, l15, y15, z15⟩, st15⟩ := Jvm.LawKit.callS X12 hx (y := (⟨"com/example/columngen/columngen/workload/CardinalityToManyPinLaw", "pick", "(I)Lcom/example/columngen/columngen/workload/Cardinality;"⟩ : MethodName)) hown (mvT hZ (hw _ (List.mem_of_getElem? (i := 0) rfl))) (mvT hZ (hw _ (List.mem_of_getElem? (i := 1) rfl))) (mvT hZ (hw _ (List.mem_of_getElem? (i := 2) rfl))) (mvT hZ (hw _ (List.mem_of_getElem? (i := 3) rfl))) (by decide) (backOf (W := 0) (rm1_1 l Z a0 hw []  s_ONE_TO_ONE s_MANY_TO_ONE s_ONE_TO_MANY s_MANY_TO_MANY h0 S_ONE_TO_ONE E_ONE_TO_ONE F_manyOfTarget_ONE_TO_ONE S_MANY_TO_ONE E_MANY_TO_ONE F_manyOfTarget_MANY_TO_ONE F_manyOfSource_ONE_TO_ONE S_ONE_TO_MANY E_ONE_TO_MANY F_manyOfTarget_ONE_TO_MANY F_manyOfSource_MANY_TO_ONE S_MANY_TO_MANY E_MANY_TO_MANY F_manyOfSource_MANY_TO_MANY F_manyOfTarget_MANY_TO_MANY F_manyOfSource_ONE_TO_MANY) hZ (hw _ (List.mem_of_getElem? (i := 3) rfl)) (hw _ (List.mem_of_getElem? (i := 2) rfl)) (by decide) (by decide)) (g := (mkF m 17 #[vI p1, vI p2, vI 1, vI 1, .unset, .unset, .unset, .unset] [iI 1])) rfl (by rw [hml]; rfl) (argsL := [(.int (1 : Int32))]) (rest := []) (lenOf pd_0 rfl) rfl (by show 2 * 0 + _ ≤ _; exact Nat.le_of_eq rfl) (hb hby at_17) (fun _ _ => ⟨rfl, e12, (by decide : 0 + 0 ≤ _), (by decide : 0 + 0 ≤ _)⟩)
      dsimp only [Pt.U, Pt.locs, Pt.cells, Pt.slots] at X15 l15 y15 z15 st15 hQ15
      subst l15 y15 z15
      obtain ⟨rfl, rfl, e15⟩ := hQ15
      try rw [List.append_nil] at X15
      obtain ⟨cq16, kq16, q16a, q16b, q16c⟩ := isOf hZ e15 E_ONE_TO_MANY
      obtain ⟨_, _, ⟨T16, L16, k16, n16⟩, -, X16, ⟨Lc16, hQ16, l16, y16, z16⟩, st16⟩ := X15.virtualBack hx (y := (⟨"com/example/columngen/columngen/workload/Cardinality", "toMany", "(Z)Z"⟩ : MethodName)) (z := (⟨"com/example/columngen/columngen/workload/Cardinality", "toMany", "(Z)Z"⟩ : MethodName)) hown (mvT hZ (hw _ (List.mem_of_getElem? (i := 7) rfl))) (mvT hZ (hw _ (List.mem_of_getElem? (i := 8) rfl))) (notFace_of_selects (args := #[]) (mvT hZ (hw _ (List.mem_of_getElem? (i := 10) rfl)))) (mvT hZ (hw _ (List.mem_of_getElem? (i := 10) rfl))) (mvT hZ (hw _ (List.mem_of_getElem? (i := 9) rfl))) (by decide) (backOf (W := 0) (rm2_1_1 l Z a0 hw []  s_ONE_TO_ONE s_MANY_TO_ONE s_ONE_TO_MANY s_MANY_TO_MANY h0 S_ONE_TO_ONE E_ONE_TO_ONE F_manyOfTarget_ONE_TO_ONE S_MANY_TO_ONE E_MANY_TO_ONE F_manyOfTarget_MANY_TO_ONE F_manyOfSource_ONE_TO_ONE S_ONE_TO_MANY E_ONE_TO_MANY F_manyOfTarget_ONE_TO_MANY F_manyOfSource_MANY_TO_ONE S_MANY_TO_MANY E_MANY_TO_MANY F_manyOfSource_MANY_TO_MANY F_manyOfTarget_MANY_TO_MANY F_manyOfSource_ONE_TO_MANY) hZ (hw _ (List.mem_of_getElem? (i := 11) rfl)) (hw _ (List.mem_of_getElem? (i := 5) rfl)) (by decide) (by decide)) q16a q16c (g := (mkF m 74 #[vI p1, vI p2, vI 1, vI 1, vR s_ONE_TO_MANY, vI 0, vI 1, vI 1] [iI 1, iR s_ONE_TO_MANY])) rfl (by rw [hml]; rfl) (Steps.refl _) (argsL := [(.int (1 : Int32))]) (rest := []) (lenOf pd_1 rfl) rfl (by show 2 * 0 + _ ≤ _; exact Nat.le_of_eq rfl) (hb hby at_74) (fun _ _ => ⟨rfl, e15, (by decide : 0 + 0 ≤ _), (by decide : 0 + 0 ≤ _)⟩)
      dsimp only [Pt.U, Pt.locs, Pt.cells, Pt.slots] at X16 l16 y16 z16 st16 hQ16
      subst l16 y16 z16
      obtain ⟨rfl, rfl, e16⟩ := hQ16
      try rw [List.append_nil] at X16
      obtain ⟨fs, hr, hrun, hended, hW, hsame⟩ := X16.leave (v := some (.int (1 : Int32))) (fun h => by rw [Bd.returns] at h; cases h)
      refine ⟨_, _, pre14 _ ?_, hrun, hended, _, _, rfl, ?_, ⟨_, rfl⟩, hW, hsame.mono (by decide) (by decide)⟩
      · show Steps _ _ _ (T12.setTop (mkF m 16 #[vI p1, vI p2, vI 1, vI 1, .unset, .unset, .unset, .unset] [])) _
        refine XS.iloadN X12.here hx rfl (hb hby at_16) rfl ?_
        show Steps _ _ _ (T12.setTop (mkF m 17 #[vI p1, vI p2, vI 1, vI 1, .unset, .unset, .unset, .unset] [iI 1])) _
        refine st15 _ ?_
        show Steps _ _ _ (T15.setTop (mkF m 20 #[vI p1, vI p2, vI 1, vI 1, .unset, .unset, .unset, .unset] [iR s_ONE_TO_MANY])) _
        refine XS.astore X15.here hx rfl (hb hby at_20) rfl rfl (l' := #[vI p1, vI p2, vI 1, vI 1, vR s_ONE_TO_MANY, .unset, .unset, .unset]) rfl ?_
        show Steps _ _ _ (T15.setTop (mkF m 22 #[vI p1, vI p2, vI 1, vI 1, vR s_ONE_TO_MANY, .unset, .unset, .unset] [])) _
        refine XS.iloadN X15.here hx rfl (hb hby at_22) rfl ?_
        show Steps _ _ _ (T15.setTop (mkF m 23 #[vI p1, vI p2, vI 1, vI 1, vR s_ONE_TO_MANY, .unset, .unset, .unset] [iI 1])) _
        refine XS.iconst X15.here hx rfl (hb hby at_23) ?_
        show Steps _ _ _ (T15.setTop (mkF m 24 #[vI p1, vI p2, vI 1, vI 1, vR s_ONE_TO_MANY, .unset, .unset, .unset] [iI 2, iI 1])) _
        refine XS.icmpNo X15.here hx rfl (hb hby at_24) rfl (feq (by decide : ¬ ((1 : Int32) = (2 : Int32)))).1 ?_
        show Steps _ _ _ (T15.setTop (mkF m 27 #[vI p1, vI p2, vI 1, vI 1, vR s_ONE_TO_MANY, .unset, .unset, .unset] [])) _
        refine XS.iloadN X15.here hx rfl (hb hby at_27) rfl ?_
        show Steps _ _ _ (T15.setTop (mkF m 28 #[vI p1, vI p2, vI 1, vI 1, vR s_ONE_TO_MANY, .unset, .unset, .unset] [iI 1])) _
        refine XS.iconst X15.here hx rfl (hb hby at_28) ?_
        show Steps _ _ _ (T15.setTop (mkF m 29 #[vI p1, vI p2, vI 1, vI 1, vR s_ONE_TO_MANY, .unset, .unset, .unset] [iI 3, iI 1])) _
        refine XS.icmpYes X15.here hx rfl (pc0 := 29) (pc' := 36) rfl (hb hby at_29) rfl (feq (by decide : ¬ ((1 : Int32) = (3 : Int32)))).2 (by decide) (by decide) ?_
        show Steps _ _ _ (T15.setTop (mkF m 36 #[vI p1, vI p2, vI 1, vI 1, vR s_ONE_TO_MANY, .unset, .unset, .unset] [])) _
        refine XS.iconst X15.here hx rfl (hb hby at_36) ?_
        show Steps _ _ _ (T15.setTop (mkF m 37 #[vI p1, vI p2, vI 1, vI 1, vR s_ONE_TO_MANY, .unset, .unset, .unset] [iI 0])) _
        refine XS.istore X15.here hx rfl (hb hby at_37) rfl (l' := #[vI p1, vI p2, vI 1, vI 1, vR s_ONE_TO_MANY, vI 0, .unset, .unset]) rfl ?_
        show Steps _ _ _ (T15.setTop (mkF m 39 #[vI p1, vI p2, vI 1, vI 1, vR s_ONE_TO_MANY, vI 0, .unset, .unset] [])) _
        refine XS.iloadN X15.here hx rfl (hb hby at_39) rfl ?_
        show Steps _ _ _ (T15.setTop (mkF m 40 #[vI p1, vI p2, vI 1, vI 1, vR s_ONE_TO_MANY, vI 0, .unset, .unset] [iI 1])) _
        refine XS.iconst X15.here hx rfl (hb hby at_40) ?_
        show Steps _ _ _ (T15.setTop (mkF m 41 #[vI p1, vI p2, vI 1, vI 1, vR s_ONE_TO_MANY, vI 0, .unset, .unset] [iI 1, iI 1])) _
        refine XS.icmpYes X15.here hx rfl (pc0 := 41) (pc' := 49) rfl (hb hby at_41) rfl (teq (by decide : (1 : Int32) = (1 : Int32))).1 (by decide) (by decide) ?_
        show Steps _ _ _ (T15.setTop (mkF m 49 #[vI p1, vI p2, vI 1, vI 1, vR s_ONE_TO_MANY, vI 0, .unset, .unset] [])) _
        refine XS.iconst X15.here hx rfl (hb hby at_49) ?_
        show Steps _ _ _ (T15.setTop (mkF m 50 #[vI p1, vI p2, vI 1, vI 1, vR s_ONE_TO_MANY, vI 0, .unset, .unset] [iI 1])) _
        refine XS.goto X15.here hx rfl (pc0 := 50) (pc' := 54) rfl (hb hby at_50) (by decide) (by decide) ?_
        show Steps _ _ _ (T15.setTop (mkF m 54 #[vI p1, vI p2, vI 1, vI 1, vR s_ONE_TO_MANY, vI 0, .unset, .unset] [iI 1])) _
        refine XS.istore X15.here hx rfl (hb hby at_54) rfl (l' := #[vI p1, vI p2, vI 1, vI 1, vR s_ONE_TO_MANY, vI 0, vI 1, .unset]) rfl ?_
        show Steps _ _ _ (T15.setTop (mkF m 56 #[vI p1, vI p2, vI 1, vI 1, vR s_ONE_TO_MANY, vI 0, vI 1, .unset] [])) _
        refine XS.iloadN X15.here hx rfl (hb hby at_56) rfl ?_
        show Steps _ _ _ (T15.setTop (mkF m 57 #[vI p1, vI p2, vI 1, vI 1, vR s_ONE_TO_MANY, vI 0, vI 1, .unset] [iI 1])) _
        refine XS.ifNo X15.here hx rfl (hb hby at_57) rfl ((if0 _ _).trans (feq (by decide : ¬ ((1 : Int32) = (0 : Int32)))).1) ?_
        show Steps _ _ _ (T15.setTop (mkF m 60 #[vI p1, vI p2, vI 1, vI 1, vR s_ONE_TO_MANY, vI 0, vI 1, .unset] [])) _
        refine XS.iload X15.here hx rfl (hb hby at_60) rfl ?_
        show Steps _ _ _ (T15.setTop (mkF m 62 #[vI p1, vI p2, vI 1, vI 1, vR s_ONE_TO_MANY, vI 0, vI 1, .unset] [iI 1])) _
        refine XS.istore X15.here hx rfl (hb hby at_62) rfl (l' := #[vI p1, vI p2, vI 1, vI 1, vR s_ONE_TO_MANY, vI 0, vI 1, vI 1]) rfl ?_
        show Steps _ _ _ (T15.setTop (mkF m 64 #[vI p1, vI p2, vI 1, vI 1, vR s_ONE_TO_MANY, vI 0, vI 1, vI 1] [])) _
        refine XS.goto X15.here hx rfl (pc0 := 64) (pc' := 71) rfl (hb hby at_64) (by decide) (by decide) ?_
        show Steps _ _ _ (T15.setTop (mkF m 71 #[vI p1, vI p2, vI 1, vI 1, vR s_ONE_TO_MANY, vI 0, vI 1, vI 1] [])) _
        refine XS.aload X15.here hx rfl (hb hby at_71) rfl rfl ?_
        show Steps _ _ _ (T15.setTop (mkF m 73 #[vI p1, vI p2, vI 1, vI 1, vR s_ONE_TO_MANY, vI 0, vI 1, vI 1] [iR s_ONE_TO_MANY])) _
        refine XS.iloadN X15.here hx rfl (hb hby at_73) rfl ?_
        show Steps _ _ _ (T15.setTop (mkF m 74 #[vI p1, vI p2, vI 1, vI 1, vR s_ONE_TO_MANY, vI 0, vI 1, vI 1] [iI 1, iR s_ONE_TO_MANY])) _
        refine st16.trans ?_
        show Steps _ _ _ (T16.setTop (mkF m 77 #[vI p1, vI p2, vI 1, vI 1, vR s_ONE_TO_MANY, vI 0, vI 1, vI 1] [iI 1])) _
        refine XS.iload X16.here hx rfl (hb hby at_77) rfl ?_
        show Steps _ _ _ (T16.setTop (mkF m 79 #[vI p1, vI p2, vI 1, vI 1, vR s_ONE_TO_MANY, vI 0, vI 1, vI 1] [iI 1, iI 1])) _
        refine XS.icmpNo X16.here hx rfl (hb hby at_79) rfl (teq (by decide : (1 : Int32) = (1 : Int32))).2 ?_
        show Steps _ _ _ (T16.setTop (mkF m 82 #[vI p1, vI p2, vI 1, vI 1, vR s_ONE_TO_MANY, vI 0, vI 1, vI 1] [])) _
        refine XS.iconst X16.here hx rfl (hb hby at_82) ?_
        show Steps _ _ _ (T16.setTop (mkF m 83 #[vI p1, vI p2, vI 1, vI 1, vR s_ONE_TO_MANY, vI 0, vI 1, vI 1] [iI 1])) _
        refine XS.goto X16.here hx rfl (pc0 := 83) (pc' := 87) rfl (hb hby at_83) (by decide) (by decide) ?_
        show Steps _ _ _ (T16.setTop (mkF m 87 #[vI p1, vI p2, vI 1, vI 1, vR s_ONE_TO_MANY, vI 0, vI 1, vI 1] [iI 1])) _
        exact retN X16 hx (t := .boolean) Bd.returns (by simp) (hb hby at_87) hr
      · show Q0 Z p1 p2 s_ONE_TO_ONE s_MANY_TO_ONE s_ONE_TO_MANY s_MANY_TO_MANY h0 _ T16.heap _
        rw [e16]
        exact ⟨rfl, rfl, rfl⟩
    · obtain ⟨_, _, ⟨T17, L17, k17, n17⟩, -, X17, ⟨Lc17, hQ17, l17, y17, z17⟩, st17⟩ := Jvm.LawKit.callS X12 hx (y := (⟨"com/example/columngen/columngen/workload/CardinalityToManyPinLaw", "pick", "(I)Lcom/example/columngen/columngen/workload/Cardinality;"⟩ : MethodName)) hown (mvT hZ (hw _ (List.mem_of_getElem? (i := 0) rfl))) (mvT hZ (hw _ (List.mem_of_getElem? (i := 1) rfl))) (mvT hZ (hw _ (List.mem_of_getElem? (i := 2) rfl))) (mvT hZ (hw _ (List.mem_of_getElem? (i := 3) rfl))) (by decide) (backOf (W := 0) (rm1_1 l Z a0 hw []  s_ONE_TO_ONE s_MANY_TO_ONE s_ONE_TO_MANY s_MANY_TO_MANY h0 S_ONE_TO_ONE E_ONE_TO_ONE F_manyOfTarget_ONE_TO_ONE S_MANY_TO_ONE E_MANY_TO_ONE F_manyOfTarget_MANY_TO_ONE F_manyOfSource_ONE_TO_ONE S_ONE_TO_MANY E_ONE_TO_MANY F_manyOfTarget_ONE_TO_MANY F_manyOfSource_MANY_TO_ONE S_MANY_TO_MANY E_MANY_TO_MANY F_manyOfSource_MANY_TO_MANY F_manyOfTarget_MANY_TO_MANY F_manyOfSource_ONE_TO_MANY) hZ (hw _ (List.mem_of_getElem? (i := 3) rfl)) (hw _ (List.mem_of_getElem? (i := 2) rfl)) (by decide) (by decide)) (g := (mkF m 17 #[vI p1, vI p2, vI 1, vI 0, .unset, .unset, .unset, .unset] [iI 1])) rfl (by rw [hml]; rfl) (argsL := [(.int (1 : Int32))]) (rest := []) (lenOf pd_0 rfl) rfl (by show 2 * 0 + _ ≤ _; exact Nat.le_of_eq rfl) (hb hby at_17) (fun _ _ => ⟨rfl, e12, (by decide : 0 + 0 ≤ _), (by decide : 0 + 0 ≤ _)⟩)
      dsimp only [Pt.U, Pt.locs, Pt.cells, Pt.slots] at X17 l17 y17 z17 st17 hQ17
      subst l17 y17 z17
      obtain ⟨rfl, rfl, e17⟩ := hQ17
      try rw [List.append_nil] at X17
      obtain ⟨cq18, kq18, q18a, q18b, q18c⟩ := isOf hZ e17 E_ONE_TO_MANY
      obtain ⟨_, _, ⟨T18, L18, k18, n18⟩, -, X18, ⟨Lc18, hQ18, l18, y18, z18⟩, st18⟩ := X17.virtualBack hx (y := (⟨"com/example/columngen/columngen/workload/Cardinality", "toMany", "(Z)Z"⟩ : MethodName)) (z := (⟨"com/example/columngen/columngen/workload/Cardinality", "toMany", "(Z)Z"⟩ : MethodName)) hown (mvT hZ (hw _ (List.mem_of_getElem? (i := 7) rfl))) (mvT hZ (hw _ (List.mem_of_getElem? (i := 8) rfl))) (notFace_of_selects (args := #[]) (mvT hZ (hw _ (List.mem_of_getElem? (i := 10) rfl)))) (mvT hZ (hw _ (List.mem_of_getElem? (i := 10) rfl))) (mvT hZ (hw _ (List.mem_of_getElem? (i := 9) rfl))) (by decide) (backOf (W := 0) (rm2_1_0 l Z a0 hw []  s_ONE_TO_ONE s_MANY_TO_ONE s_ONE_TO_MANY s_MANY_TO_MANY h0 S_ONE_TO_ONE E_ONE_TO_ONE F_manyOfTarget_ONE_TO_ONE S_MANY_TO_ONE E_MANY_TO_ONE F_manyOfTarget_MANY_TO_ONE F_manyOfSource_ONE_TO_ONE S_ONE_TO_MANY E_ONE_TO_MANY F_manyOfTarget_ONE_TO_MANY F_manyOfSource_MANY_TO_ONE S_MANY_TO_MANY E_MANY_TO_MANY F_manyOfSource_MANY_TO_MANY F_manyOfTarget_MANY_TO_MANY F_manyOfSource_ONE_TO_MANY) hZ (hw _ (List.mem_of_getElem? (i := 11) rfl)) (hw _ (List.mem_of_getElem? (i := 5) rfl)) (by decide) (by decide)) q18a q18c (g := (mkF m 74 #[vI p1, vI p2, vI 1, vI 0, vR s_ONE_TO_MANY, vI 0, vI 1, vI 0] [iI 0, iR s_ONE_TO_MANY])) rfl (by rw [hml]; rfl) (Steps.refl _) (argsL := [(.int (0 : Int32))]) (rest := []) (lenOf pd_1 rfl) rfl (by show 2 * 0 + _ ≤ _; exact Nat.le_of_eq rfl) (hb hby at_74) (fun _ _ => ⟨rfl, e17, (by decide : 0 + 0 ≤ _), (by decide : 0 + 0 ≤ _)⟩)
      dsimp only [Pt.U, Pt.locs, Pt.cells, Pt.slots] at X18 l18 y18 z18 st18 hQ18
      subst l18 y18 z18
      obtain ⟨rfl, rfl, e18⟩ := hQ18
      try rw [List.append_nil] at X18
      obtain ⟨fs, hr, hrun, hended, hW, hsame⟩ := X18.leave (v := some (.int (1 : Int32))) (fun h => by rw [Bd.returns] at h; cases h)
      refine ⟨_, _, pre14 _ ?_, hrun, hended, _, _, rfl, ?_, ⟨_, rfl⟩, hW, hsame.mono (by decide) (by decide)⟩
      · show Steps _ _ _ (T12.setTop (mkF m 16 #[vI p1, vI p2, vI 1, vI 0, .unset, .unset, .unset, .unset] [])) _
        refine XS.iloadN X12.here hx rfl (hb hby at_16) rfl ?_
        show Steps _ _ _ (T12.setTop (mkF m 17 #[vI p1, vI p2, vI 1, vI 0, .unset, .unset, .unset, .unset] [iI 1])) _
        refine st17 _ ?_
        show Steps _ _ _ (T17.setTop (mkF m 20 #[vI p1, vI p2, vI 1, vI 0, .unset, .unset, .unset, .unset] [iR s_ONE_TO_MANY])) _
        refine XS.astore X17.here hx rfl (hb hby at_20) rfl rfl (l' := #[vI p1, vI p2, vI 1, vI 0, vR s_ONE_TO_MANY, .unset, .unset, .unset]) rfl ?_
        show Steps _ _ _ (T17.setTop (mkF m 22 #[vI p1, vI p2, vI 1, vI 0, vR s_ONE_TO_MANY, .unset, .unset, .unset] [])) _
        refine XS.iloadN X17.here hx rfl (hb hby at_22) rfl ?_
        show Steps _ _ _ (T17.setTop (mkF m 23 #[vI p1, vI p2, vI 1, vI 0, vR s_ONE_TO_MANY, .unset, .unset, .unset] [iI 1])) _
        refine XS.iconst X17.here hx rfl (hb hby at_23) ?_
        show Steps _ _ _ (T17.setTop (mkF m 24 #[vI p1, vI p2, vI 1, vI 0, vR s_ONE_TO_MANY, .unset, .unset, .unset] [iI 2, iI 1])) _
        refine XS.icmpNo X17.here hx rfl (hb hby at_24) rfl (feq (by decide : ¬ ((1 : Int32) = (2 : Int32)))).1 ?_
        show Steps _ _ _ (T17.setTop (mkF m 27 #[vI p1, vI p2, vI 1, vI 0, vR s_ONE_TO_MANY, .unset, .unset, .unset] [])) _
        refine XS.iloadN X17.here hx rfl (hb hby at_27) rfl ?_
        show Steps _ _ _ (T17.setTop (mkF m 28 #[vI p1, vI p2, vI 1, vI 0, vR s_ONE_TO_MANY, .unset, .unset, .unset] [iI 1])) _
        refine XS.iconst X17.here hx rfl (hb hby at_28) ?_
        show Steps _ _ _ (T17.setTop (mkF m 29 #[vI p1, vI p2, vI 1, vI 0, vR s_ONE_TO_MANY, .unset, .unset, .unset] [iI 3, iI 1])) _
        refine XS.icmpYes X17.here hx rfl (pc0 := 29) (pc' := 36) rfl (hb hby at_29) rfl (feq (by decide : ¬ ((1 : Int32) = (3 : Int32)))).2 (by decide) (by decide) ?_
        show Steps _ _ _ (T17.setTop (mkF m 36 #[vI p1, vI p2, vI 1, vI 0, vR s_ONE_TO_MANY, .unset, .unset, .unset] [])) _
        refine XS.iconst X17.here hx rfl (hb hby at_36) ?_
        show Steps _ _ _ (T17.setTop (mkF m 37 #[vI p1, vI p2, vI 1, vI 0, vR s_ONE_TO_MANY, .unset, .unset, .unset] [iI 0])) _
        refine XS.istore X17.here hx rfl (hb hby at_37) rfl (l' := #[vI p1, vI p2, vI 1, vI 0, vR s_ONE_TO_MANY, vI 0, .unset, .unset]) rfl ?_
        show Steps _ _ _ (T17.setTop (mkF m 39 #[vI p1, vI p2, vI 1, vI 0, vR s_ONE_TO_MANY, vI 0, .unset, .unset] [])) _
        refine XS.iloadN X17.here hx rfl (hb hby at_39) rfl ?_
        show Steps _ _ _ (T17.setTop (mkF m 40 #[vI p1, vI p2, vI 1, vI 0, vR s_ONE_TO_MANY, vI 0, .unset, .unset] [iI 1])) _
        refine XS.iconst X17.here hx rfl (hb hby at_40) ?_
        show Steps _ _ _ (T17.setTop (mkF m 41 #[vI p1, vI p2, vI 1, vI 0, vR s_ONE_TO_MANY, vI 0, .unset, .unset] [iI 1, iI 1])) _
        refine XS.icmpYes X17.here hx rfl (pc0 := 41) (pc' := 49) rfl (hb hby at_41) rfl (teq (by decide : (1 : Int32) = (1 : Int32))).1 (by decide) (by decide) ?_
        show Steps _ _ _ (T17.setTop (mkF m 49 #[vI p1, vI p2, vI 1, vI 0, vR s_ONE_TO_MANY, vI 0, .unset, .unset] [])) _
        refine XS.iconst X17.here hx rfl (hb hby at_49) ?_
        show Steps _ _ _ (T17.setTop (mkF m 50 #[vI p1, vI p2, vI 1, vI 0, vR s_ONE_TO_MANY, vI 0, .unset, .unset] [iI 1])) _
        refine XS.goto X17.here hx rfl (pc0 := 50) (pc' := 54) rfl (hb hby at_50) (by decide) (by decide) ?_
        show Steps _ _ _ (T17.setTop (mkF m 54 #[vI p1, vI p2, vI 1, vI 0, vR s_ONE_TO_MANY, vI 0, .unset, .unset] [iI 1])) _
        refine XS.istore X17.here hx rfl (hb hby at_54) rfl (l' := #[vI p1, vI p2, vI 1, vI 0, vR s_ONE_TO_MANY, vI 0, vI 1, .unset]) rfl ?_
        show Steps _ _ _ (T17.setTop (mkF m 56 #[vI p1, vI p2, vI 1, vI 0, vR s_ONE_TO_MANY, vI 0, vI 1, .unset] [])) _
        refine XS.iloadN X17.here hx rfl (hb hby at_56) rfl ?_
        show Steps _ _ _ (T17.setTop (mkF m 57 #[vI p1, vI p2, vI 1, vI 0, vR s_ONE_TO_MANY, vI 0, vI 1, .unset] [iI 0])) _
        refine XS.ifYes X17.here hx rfl (pc0 := 57) (pc' := 67) rfl (hb hby at_57) rfl ((if0 _ _).trans (teq (by decide : (0 : Int32) = (0 : Int32))).1) (by decide) (by decide) ?_
        show Steps _ _ _ (T17.setTop (mkF m 67 #[vI p1, vI p2, vI 1, vI 0, vR s_ONE_TO_MANY, vI 0, vI 1, .unset] [])) _
        refine XS.iload X17.here hx rfl (hb hby at_67) rfl ?_
        show Steps _ _ _ (T17.setTop (mkF m 69 #[vI p1, vI p2, vI 1, vI 0, vR s_ONE_TO_MANY, vI 0, vI 1, .unset] [iI 0])) _
        refine XS.istore X17.here hx rfl (hb hby at_69) rfl (l' := #[vI p1, vI p2, vI 1, vI 0, vR s_ONE_TO_MANY, vI 0, vI 1, vI 0]) rfl ?_
        show Steps _ _ _ (T17.setTop (mkF m 71 #[vI p1, vI p2, vI 1, vI 0, vR s_ONE_TO_MANY, vI 0, vI 1, vI 0] [])) _
        refine XS.aload X17.here hx rfl (hb hby at_71) rfl rfl ?_
        show Steps _ _ _ (T17.setTop (mkF m 73 #[vI p1, vI p2, vI 1, vI 0, vR s_ONE_TO_MANY, vI 0, vI 1, vI 0] [iR s_ONE_TO_MANY])) _
        refine XS.iloadN X17.here hx rfl (hb hby at_73) rfl ?_
        show Steps _ _ _ (T17.setTop (mkF m 74 #[vI p1, vI p2, vI 1, vI 0, vR s_ONE_TO_MANY, vI 0, vI 1, vI 0] [iI 0, iR s_ONE_TO_MANY])) _
        refine st18.trans ?_
        show Steps _ _ _ (T18.setTop (mkF m 77 #[vI p1, vI p2, vI 1, vI 0, vR s_ONE_TO_MANY, vI 0, vI 1, vI 0] [iI 0])) _
        refine XS.iload X18.here hx rfl (hb hby at_77) rfl ?_
        show Steps _ _ _ (T18.setTop (mkF m 79 #[vI p1, vI p2, vI 1, vI 0, vR s_ONE_TO_MANY, vI 0, vI 1, vI 0] [iI 0, iI 0])) _
        refine XS.icmpNo X18.here hx rfl (hb hby at_79) rfl (teq (by decide : (0 : Int32) = (0 : Int32))).2 ?_
        show Steps _ _ _ (T18.setTop (mkF m 82 #[vI p1, vI p2, vI 1, vI 0, vR s_ONE_TO_MANY, vI 0, vI 1, vI 0] [])) _
        refine XS.iconst X18.here hx rfl (hb hby at_82) ?_
        show Steps _ _ _ (T18.setTop (mkF m 83 #[vI p1, vI p2, vI 1, vI 0, vR s_ONE_TO_MANY, vI 0, vI 1, vI 0] [iI 1])) _
        refine XS.goto X18.here hx rfl (pc0 := 83) (pc' := 87) rfl (hb hby at_83) (by decide) (by decide) ?_
        show Steps _ _ _ (T18.setTop (mkF m 87 #[vI p1, vI p2, vI 1, vI 0, vR s_ONE_TO_MANY, vI 0, vI 1, vI 0] [iI 1])) _
        exact retN X18 hx (t := .boolean) Bd.returns (by simp) (hb hby at_87) hr
      · show Q0 Z p1 p2 s_ONE_TO_ONE s_MANY_TO_ONE s_ONE_TO_MANY s_MANY_TO_MANY h0 _ T18.heap _
        rw [e18]
        exact ⟨rfl, rfl, rfl⟩
  · obtain ⟨v19, hv19⟩ : ∃ z : Int32, z = (if (p2 &&& (1 : Int32)) = (0 : Int32) then (0 : Int32) else (1 : Int32)) := ⟨_, rfl⟩
    obtain ⟨T20, X20, e20, st20⟩ : own_Mid X0 h0 (mkF m 7 #[vI p1, vI p2, vI 2, .unset, .unset, .unset, .unset, .unset] [iI (p2 &&& (1 : Int32))]) (mkF m 15 #[vI p1, vI p2, vI 2, .unset, .unset, .unset, .unset, .unset] [iI v19]) := by
      by_cases hc21 : (p2 &&& (1 : Int32)) = (0 : Int32)
      · refine ⟨s₁, X0, e0, fun t kt => ?_⟩
        subst hv19
        simp only [if_pos hc21] at kt
        show Steps _ _ _ (s₁.setTop (mkF m 7 #[vI p1, vI p2, vI 2, .unset, .unset, .unset, .unset, .unset] [iI (p2 &&& (1 : Int32))])) _
        refine XS.ifYes X0.here hx rfl (pc0 := 7) (pc' := 14) rfl (hb hby at_7) rfl ((if0 _ _).trans (teq hc21).1) (by decide) (by decide) ?_
        show Steps _ _ _ (s₁.setTop (mkF m 14 #[vI p1, vI p2, vI 2, .unset, .unset, .unset, .unset, .unset] [])) _
        refine XS.iconst X0.here hx rfl (hb hby at_14) ?_
        exact kt
      · refine ⟨s₁, X0, e0, fun t kt => ?_⟩
        subst hv19
        simp only [if_neg hc21] at kt
        show Steps _ _ _ (s₁.setTop (mkF m 7 #[vI p1, vI p2, vI 2, .unset, .unset, .unset, .unset, .unset] [iI (p2 &&& (1 : Int32))])) _
        refine XS.ifNo X0.here hx rfl (hb hby at_7) rfl ((if0 _ _).trans (feq hc21).1) ?_
        show Steps _ _ _ (s₁.setTop (mkF m 10 #[vI p1, vI p2, vI 2, .unset, .unset, .unset, .unset, .unset] [])) _
        refine XS.iconst X0.here hx rfl (hb hby at_10) ?_
        show Steps _ _ _ (s₁.setTop (mkF m 11 #[vI p1, vI p2, vI 2, .unset, .unset, .unset, .unset, .unset] [iI 1])) _
        refine XS.goto X0.here hx rfl (pc0 := 11) (pc' := 15) rfl (hb hby at_11) (by decide) (by decide) ?_
        exact kt
    have qb : v19 = 1 ∨ v19 = 0 := by rw [hv19]; split <;> simp
    have pre22 : ∀ t, Steps p.tables e below (T20.setTop (mkF m 16 #[vI p1, vI p2, vI 2, vI v19, .unset, .unset, .unset, .unset] [])) t → Steps p.tables e below (s₁.setTop (entryFrame m #[(.int p1), (.int p2)] maxLocals)) t := by
      intro t kt
      refine pre2 t ?_
      show Steps _ _ _ (s₁.setTop (mkF m 4 #[vI p1, vI p2, vI 2, .unset, .unset, .unset, .unset, .unset] [])) _
      refine XS.iloadN X0.here hx rfl (hb hby at_4) rfl ?_
      show Steps _ _ _ (s₁.setTop (mkF m 5 #[vI p1, vI p2, vI 2, .unset, .unset, .unset, .unset, .unset] [iI p2])) _
      refine XS.iconst X0.here hx rfl (hb hby at_5) ?_
      show Steps _ _ _ (s₁.setTop (mkF m 6 #[vI p1, vI p2, vI 2, .unset, .unset, .unset, .unset, .unset] [iI 1, iI p2])) _
      refine XS.iand X0.here hx rfl (hb hby at_6) rfl ?_
      show Steps _ _ _ (s₁.setTop (mkF m 7 #[vI p1, vI p2, vI 2, .unset, .unset, .unset, .unset, .unset] [iI (p2 &&& (1 : Int32))])) _
      refine st20 _ ?_
      show Steps _ _ _ (T20.setTop (mkF m 15 #[vI p1, vI p2, vI 2, .unset, .unset, .unset, .unset, .unset] [iI v19])) _
      refine XS.istoreN X20.here hx rfl (hb hby at_15) rfl (l' := #[vI p1, vI p2, vI 2, vI v19, .unset, .unset, .unset, .unset]) rfl ?_
      exact kt
    rcases qb with rfl | rfl
    · obtain ⟨_, _, ⟨T23, L23, k23, n23⟩, -, X23, ⟨Lc23, hQ23, l23, y23, z23⟩, st23⟩ := Jvm.LawKit.callS X20 hx (y := (⟨"com/example/columngen/columngen/workload/CardinalityToManyPinLaw", "pick", "(I)Lcom/example/columngen/columngen/workload/Cardinality;"⟩ : MethodName)) hown (mvT hZ (hw _ (List.mem_of_getElem? (i := 0) rfl))) (mvT hZ (hw _ (List.mem_of_getElem? (i := 1) rfl))) (mvT hZ (hw _ (List.mem_of_getElem? (i := 2) rfl))) (mvT hZ (hw _ (List.mem_of_getElem? (i := 3) rfl))) (by decide) (backOf (W := 0) (rm1_2 l Z a0 hw []  s_ONE_TO_ONE s_MANY_TO_ONE s_ONE_TO_MANY s_MANY_TO_MANY h0 S_ONE_TO_ONE E_ONE_TO_ONE F_manyOfTarget_ONE_TO_ONE S_MANY_TO_ONE E_MANY_TO_ONE F_manyOfTarget_MANY_TO_ONE F_manyOfSource_ONE_TO_ONE S_ONE_TO_MANY E_ONE_TO_MANY F_manyOfTarget_ONE_TO_MANY F_manyOfSource_MANY_TO_ONE S_MANY_TO_MANY E_MANY_TO_MANY F_manyOfSource_MANY_TO_MANY F_manyOfTarget_MANY_TO_MANY F_manyOfSource_ONE_TO_MANY) hZ (hw _ (List.mem_of_getElem? (i := 3) rfl)) (hw _ (List.mem_of_getElem? (i := 2) rfl)) (by decide) (by decide)) (g := (mkF m 17 #[vI p1, vI p2, vI 2, vI 1, .unset, .unset, .unset, .unset] [iI 2])) rfl (by rw [hml]; rfl) (argsL := [(.int (2 : Int32))]) (rest := []) (lenOf pd_0 rfl) rfl (by show 2 * 0 + _ ≤ _; exact Nat.le_of_eq rfl) (hb hby at_17) (fun _ _ => ⟨rfl, e20, (by decide : 0 + 0 ≤ _), (by decide : 0 + 0 ≤ _)⟩)
      dsimp only [Pt.U, Pt.locs, Pt.cells, Pt.slots] at X23 l23 y23 z23 st23 hQ23
      subst l23 y23 z23
      obtain ⟨rfl, rfl, e23⟩ := hQ23
      try rw [List.append_nil] at X23
      obtain ⟨cq24, kq24, q24a, q24b, q24c⟩ := isOf hZ e23 E_MANY_TO_ONE
      obtain ⟨_, _, ⟨T24, L24, k24, n24⟩, -, X24, ⟨Lc24, hQ24, l24, y24, z24⟩, st24⟩ := X23.virtualBack hx (y := (⟨"com/example/columngen/columngen/workload/Cardinality", "toMany", "(Z)Z"⟩ : MethodName)) (z := (⟨"com/example/columngen/columngen/workload/Cardinality", "toMany", "(Z)Z"⟩ : MethodName)) hown (mvT hZ (hw _ (List.mem_of_getElem? (i := 7) rfl))) (mvT hZ (hw _ (List.mem_of_getElem? (i := 8) rfl))) (notFace_of_selects (args := #[]) (mvT hZ (hw _ (List.mem_of_getElem? (i := 10) rfl)))) (mvT hZ (hw _ (List.mem_of_getElem? (i := 10) rfl))) (mvT hZ (hw _ (List.mem_of_getElem? (i := 9) rfl))) (by decide) (backOf (W := 0) (rm2_2_1 l Z a0 hw []  s_ONE_TO_ONE s_MANY_TO_ONE s_ONE_TO_MANY s_MANY_TO_MANY h0 S_ONE_TO_ONE E_ONE_TO_ONE F_manyOfTarget_ONE_TO_ONE S_MANY_TO_ONE E_MANY_TO_ONE F_manyOfTarget_MANY_TO_ONE F_manyOfSource_ONE_TO_ONE S_ONE_TO_MANY E_ONE_TO_MANY F_manyOfTarget_ONE_TO_MANY F_manyOfSource_MANY_TO_ONE S_MANY_TO_MANY E_MANY_TO_MANY F_manyOfSource_MANY_TO_MANY F_manyOfTarget_MANY_TO_MANY F_manyOfSource_ONE_TO_MANY) hZ (hw _ (List.mem_of_getElem? (i := 11) rfl)) (hw _ (List.mem_of_getElem? (i := 5) rfl)) (by decide) (by decide)) q24a q24c (g := (mkF m 74 #[vI p1, vI p2, vI 2, vI 1, vR s_MANY_TO_ONE, vI 1, vI 0, vI 0] [iI 1, iR s_MANY_TO_ONE])) rfl (by rw [hml]; rfl) (Steps.refl _) (argsL := [(.int (1 : Int32))]) (rest := []) (lenOf pd_1 rfl) rfl (by show 2 * 0 + _ ≤ _; exact Nat.le_of_eq rfl) (hb hby at_74) (fun _ _ => ⟨rfl, e23, (by decide : 0 + 0 ≤ _), (by decide : 0 + 0 ≤ _)⟩)
      dsimp only [Pt.U, Pt.locs, Pt.cells, Pt.slots] at X24 l24 y24 z24 st24 hQ24
      subst l24 y24 z24
      obtain ⟨rfl, rfl, e24⟩ := hQ24
      try rw [List.append_nil] at X24
      obtain ⟨fs, hr, hrun, hended, hW, hsame⟩ := X24.leave (v := some (.int (1 : Int32))) (fun h => by rw [Bd.returns] at h; cases h)
      refine ⟨_, _, pre22 _ ?_, hrun, hended, _, _, rfl, ?_, ⟨_, rfl⟩, hW, hsame.mono (by decide) (by decide)⟩
      · show Steps _ _ _ (T20.setTop (mkF m 16 #[vI p1, vI p2, vI 2, vI 1, .unset, .unset, .unset, .unset] [])) _
        refine XS.iloadN X20.here hx rfl (hb hby at_16) rfl ?_
        show Steps _ _ _ (T20.setTop (mkF m 17 #[vI p1, vI p2, vI 2, vI 1, .unset, .unset, .unset, .unset] [iI 2])) _
        refine st23 _ ?_
        show Steps _ _ _ (T23.setTop (mkF m 20 #[vI p1, vI p2, vI 2, vI 1, .unset, .unset, .unset, .unset] [iR s_MANY_TO_ONE])) _
        refine XS.astore X23.here hx rfl (hb hby at_20) rfl rfl (l' := #[vI p1, vI p2, vI 2, vI 1, vR s_MANY_TO_ONE, .unset, .unset, .unset]) rfl ?_
        show Steps _ _ _ (T23.setTop (mkF m 22 #[vI p1, vI p2, vI 2, vI 1, vR s_MANY_TO_ONE, .unset, .unset, .unset] [])) _
        refine XS.iloadN X23.here hx rfl (hb hby at_22) rfl ?_
        show Steps _ _ _ (T23.setTop (mkF m 23 #[vI p1, vI p2, vI 2, vI 1, vR s_MANY_TO_ONE, .unset, .unset, .unset] [iI 2])) _
        refine XS.iconst X23.here hx rfl (hb hby at_23) ?_
        show Steps _ _ _ (T23.setTop (mkF m 24 #[vI p1, vI p2, vI 2, vI 1, vR s_MANY_TO_ONE, .unset, .unset, .unset] [iI 2, iI 2])) _
        refine XS.icmpYes X23.here hx rfl (pc0 := 24) (pc' := 32) rfl (hb hby at_24) rfl (teq (by decide : (2 : Int32) = (2 : Int32))).1 (by decide) (by decide) ?_
        show Steps _ _ _ (T23.setTop (mkF m 32 #[vI p1, vI p2, vI 2, vI 1, vR s_MANY_TO_ONE, .unset, .unset, .unset] [])) _
        refine XS.iconst X23.here hx rfl (hb hby at_32) ?_
        show Steps _ _ _ (T23.setTop (mkF m 33 #[vI p1, vI p2, vI 2, vI 1, vR s_MANY_TO_ONE, .unset, .unset, .unset] [iI 1])) _
        refine XS.goto X23.here hx rfl (pc0 := 33) (pc' := 37) rfl (hb hby at_33) (by decide) (by decide) ?_
        show Steps _ _ _ (T23.setTop (mkF m 37 #[vI p1, vI p2, vI 2, vI 1, vR s_MANY_TO_ONE, .unset, .unset, .unset] [iI 1])) _
        refine XS.istore X23.here hx rfl (hb hby at_37) rfl (l' := #[vI p1, vI p2, vI 2, vI 1, vR s_MANY_TO_ONE, vI 1, .unset, .unset]) rfl ?_
        show Steps _ _ _ (T23.setTop (mkF m 39 #[vI p1, vI p2, vI 2, vI 1, vR s_MANY_TO_ONE, vI 1, .unset, .unset] [])) _
        refine XS.iloadN X23.here hx rfl (hb hby at_39) rfl ?_
        show Steps _ _ _ (T23.setTop (mkF m 40 #[vI p1, vI p2, vI 2, vI 1, vR s_MANY_TO_ONE, vI 1, .unset, .unset] [iI 2])) _
        refine XS.iconst X23.here hx rfl (hb hby at_40) ?_
        show Steps _ _ _ (T23.setTop (mkF m 41 #[vI p1, vI p2, vI 2, vI 1, vR s_MANY_TO_ONE, vI 1, .unset, .unset] [iI 1, iI 2])) _
        refine XS.icmpNo X23.here hx rfl (hb hby at_41) rfl (feq (by decide : ¬ ((2 : Int32) = (1 : Int32)))).1 ?_
        show Steps _ _ _ (T23.setTop (mkF m 44 #[vI p1, vI p2, vI 2, vI 1, vR s_MANY_TO_ONE, vI 1, .unset, .unset] [])) _
        refine XS.iloadN X23.here hx rfl (hb hby at_44) rfl ?_
        show Steps _ _ _ (T23.setTop (mkF m 45 #[vI p1, vI p2, vI 2, vI 1, vR s_MANY_TO_ONE, vI 1, .unset, .unset] [iI 2])) _
        refine XS.iconst X23.here hx rfl (hb hby at_45) ?_
        show Steps _ _ _ (T23.setTop (mkF m 46 #[vI p1, vI p2, vI 2, vI 1, vR s_MANY_TO_ONE, vI 1, .unset, .unset] [iI 3, iI 2])) _
        refine XS.icmpYes X23.here hx rfl (pc0 := 46) (pc' := 53) rfl (hb hby at_46) rfl (feq (by decide : ¬ ((2 : Int32) = (3 : Int32)))).2 (by decide) (by decide) ?_
        show Steps _ _ _ (T23.setTop (mkF m 53 #[vI p1, vI p2, vI 2, vI 1, vR s_MANY_TO_ONE, vI 1, .unset, .unset] [])) _
        refine XS.iconst X23.here hx rfl (hb hby at_53) ?_
        show Steps _ _ _ (T23.setTop (mkF m 54 #[vI p1, vI p2, vI 2, vI 1, vR s_MANY_TO_ONE, vI 1, .unset, .unset] [iI 0])) _
        refine XS.istore X23.here hx rfl (hb hby at_54) rfl (l' := #[vI p1, vI p2, vI 2, vI 1, vR s_MANY_TO_ONE, vI 1, vI 0, .unset]) rfl ?_
        show Steps _ _ _ (T23.setTop (mkF m 56 #[vI p1, vI p2, vI 2, vI 1, vR s_MANY_TO_ONE, vI 1, vI 0, .unset] [])) _
        refine XS.iloadN X23.here hx rfl (hb hby at_56) rfl ?_
        show Steps _ _ _ (T23.setTop (mkF m 57 #[vI p1, vI p2, vI 2, vI 1, vR s_MANY_TO_ONE, vI 1, vI 0, .unset] [iI 1])) _
        refine XS.ifNo X23.here hx rfl (hb hby at_57) rfl ((if0 _ _).trans (feq (by decide : ¬ ((1 : Int32) = (0 : Int32)))).1) ?_
        show Steps _ _ _ (T23.setTop (mkF m 60 #[vI p1, vI p2, vI 2, vI 1, vR s_MANY_TO_ONE, vI 1, vI 0, .unset] [])) _
        refine XS.iload X23.here hx rfl (hb hby at_60) rfl ?_
        show Steps _ _ _ (T23.setTop (mkF m 62 #[vI p1, vI p2, vI 2, vI 1, vR s_MANY_TO_ONE, vI 1, vI 0, .unset] [iI 0])) _
        refine XS.istore X23.here hx rfl (hb hby at_62) rfl (l' := #[vI p1, vI p2, vI 2, vI 1, vR s_MANY_TO_ONE, vI 1, vI 0, vI 0]) rfl ?_
        show Steps _ _ _ (T23.setTop (mkF m 64 #[vI p1, vI p2, vI 2, vI 1, vR s_MANY_TO_ONE, vI 1, vI 0, vI 0] [])) _
        refine XS.goto X23.here hx rfl (pc0 := 64) (pc' := 71) rfl (hb hby at_64) (by decide) (by decide) ?_
        show Steps _ _ _ (T23.setTop (mkF m 71 #[vI p1, vI p2, vI 2, vI 1, vR s_MANY_TO_ONE, vI 1, vI 0, vI 0] [])) _
        refine XS.aload X23.here hx rfl (hb hby at_71) rfl rfl ?_
        show Steps _ _ _ (T23.setTop (mkF m 73 #[vI p1, vI p2, vI 2, vI 1, vR s_MANY_TO_ONE, vI 1, vI 0, vI 0] [iR s_MANY_TO_ONE])) _
        refine XS.iloadN X23.here hx rfl (hb hby at_73) rfl ?_
        show Steps _ _ _ (T23.setTop (mkF m 74 #[vI p1, vI p2, vI 2, vI 1, vR s_MANY_TO_ONE, vI 1, vI 0, vI 0] [iI 1, iR s_MANY_TO_ONE])) _
        refine st24.trans ?_
        show Steps _ _ _ (T24.setTop (mkF m 77 #[vI p1, vI p2, vI 2, vI 1, vR s_MANY_TO_ONE, vI 1, vI 0, vI 0] [iI 0])) _
        refine XS.iload X24.here hx rfl (hb hby at_77) rfl ?_
        show Steps _ _ _ (T24.setTop (mkF m 79 #[vI p1, vI p2, vI 2, vI 1, vR s_MANY_TO_ONE, vI 1, vI 0, vI 0] [iI 0, iI 0])) _
        refine XS.icmpNo X24.here hx rfl (hb hby at_79) rfl (teq (by decide : (0 : Int32) = (0 : Int32))).2 ?_
        show Steps _ _ _ (T24.setTop (mkF m 82 #[vI p1, vI p2, vI 2, vI 1, vR s_MANY_TO_ONE, vI 1, vI 0, vI 0] [])) _
        refine XS.iconst X24.here hx rfl (hb hby at_82) ?_
        show Steps _ _ _ (T24.setTop (mkF m 83 #[vI p1, vI p2, vI 2, vI 1, vR s_MANY_TO_ONE, vI 1, vI 0, vI 0] [iI 1])) _
        refine XS.goto X24.here hx rfl (pc0 := 83) (pc' := 87) rfl (hb hby at_83) (by decide) (by decide) ?_
        show Steps _ _ _ (T24.setTop (mkF m 87 #[vI p1, vI p2, vI 2, vI 1, vR s_MANY_TO_ONE, vI 1, vI 0, vI 0] [iI 1])) _
        exact retN X24 hx (t := .boolean) Bd.returns (by simp) (hb hby at_87) hr
      · show Q0 Z p1 p2 s_ONE_TO_ONE s_MANY_TO_ONE s_ONE_TO_MANY s_MANY_TO_MANY h0 _ T24.heap _
        rw [e24]
        exact ⟨rfl, rfl, rfl⟩
    · obtain ⟨_, _, ⟨T25, L25, k25, n25⟩, -, X25, ⟨Lc25, hQ25, l25, y25, z25⟩, st25⟩ := Jvm.LawKit.callS X20 hx (y := (⟨"com/example/columngen/columngen/workload/CardinalityToManyPinLaw", "pick", "(I)Lcom/example/columngen/columngen/workload/Cardinality;"⟩ : MethodName)) hown (mvT hZ (hw _ (List.mem_of_getElem? (i := 0) rfl))) (mvT hZ (hw _ (List.mem_of_getElem? (i := 1) rfl))) (mvT hZ (hw _ (List.mem_of_getElem? (i := 2) rfl))) (mvT hZ (hw _ (List.mem_of_getElem? (i := 3) rfl))) (by decide) (backOf (W := 0) (rm1_2 l Z a0 hw []  s_ONE_TO_ONE s_MANY_TO_ONE s_ONE_TO_MANY s_MANY_TO_MANY h0 S_ONE_TO_ONE E_ONE_TO_ONE F_manyOfTarget_ONE_TO_ONE S_MANY_TO_ONE E_MANY_TO_ONE F_manyOfTarget_MANY_TO_ONE F_manyOfSource_ONE_TO_ONE S_ONE_TO_MANY E_ONE_TO_MANY F_manyOfTarget_ONE_TO_MANY F_manyOfSource_MANY_TO_ONE S_MANY_TO_MANY E_MANY_TO_MANY F_manyOfSource_MANY_TO_MANY F_manyOfTarget_MANY_TO_MANY F_manyOfSource_ONE_TO_MANY) hZ (hw _ (List.mem_of_getElem? (i := 3) rfl)) (hw _ (List.mem_of_getElem? (i := 2) rfl)) (by decide) (by decide)) (g := (mkF m 17 #[vI p1, vI p2, vI 2, vI 0, .unset, .unset, .unset, .unset] [iI 2])) rfl (by rw [hml]; rfl) (argsL := [(.int (2 : Int32))]) (rest := []) (lenOf pd_0 rfl) rfl (by show 2 * 0 + _ ≤ _; exact Nat.le_of_eq rfl) (hb hby at_17) (fun _ _ => ⟨rfl, e20, (by decide : 0 + 0 ≤ _), (by decide : 0 + 0 ≤ _)⟩)
      dsimp only [Pt.U, Pt.locs, Pt.cells, Pt.slots] at X25 l25 y25 z25 st25 hQ25
      subst l25 y25 z25
      obtain ⟨rfl, rfl, e25⟩ := hQ25
      try rw [List.append_nil] at X25
      obtain ⟨cq26, kq26, q26a, q26b, q26c⟩ := isOf hZ e25 E_MANY_TO_ONE
      obtain ⟨_, _, ⟨T26, L26, k26, n26⟩, -, X26, ⟨Lc26, hQ26, l26, y26, z26⟩, st26⟩ := X25.virtualBack hx (y := (⟨"com/example/columngen/columngen/workload/Cardinality", "toMany", "(Z)Z"⟩ : MethodName)) (z := (⟨"com/example/columngen/columngen/workload/Cardinality", "toMany", "(Z)Z"⟩ : MethodName)) hown (mvT hZ (hw _ (List.mem_of_getElem? (i := 7) rfl))) (mvT hZ (hw _ (List.mem_of_getElem? (i := 8) rfl))) (notFace_of_selects (args := #[]) (mvT hZ (hw _ (List.mem_of_getElem? (i := 10) rfl)))) (mvT hZ (hw _ (List.mem_of_getElem? (i := 10) rfl))) (mvT hZ (hw _ (List.mem_of_getElem? (i := 9) rfl))) (by decide) (backOf (W := 0) (rm2_2_0 l Z a0 hw []  s_ONE_TO_ONE s_MANY_TO_ONE s_ONE_TO_MANY s_MANY_TO_MANY h0 S_ONE_TO_ONE E_ONE_TO_ONE F_manyOfTarget_ONE_TO_ONE S_MANY_TO_ONE E_MANY_TO_ONE F_manyOfTarget_MANY_TO_ONE F_manyOfSource_ONE_TO_ONE S_ONE_TO_MANY E_ONE_TO_MANY F_manyOfTarget_ONE_TO_MANY F_manyOfSource_MANY_TO_ONE S_MANY_TO_MANY E_MANY_TO_MANY F_manyOfSource_MANY_TO_MANY F_manyOfTarget_MANY_TO_MANY F_manyOfSource_ONE_TO_MANY) hZ (hw _ (List.mem_of_getElem? (i := 11) rfl)) (hw _ (List.mem_of_getElem? (i := 5) rfl)) (by decide) (by decide)) q26a q26c (g := (mkF m 74 #[vI p1, vI p2, vI 2, vI 0, vR s_MANY_TO_ONE, vI 1, vI 0, vI 1] [iI 0, iR s_MANY_TO_ONE])) rfl (by rw [hml]; rfl) (Steps.refl _) (argsL := [(.int (0 : Int32))]) (rest := []) (lenOf pd_1 rfl) rfl (by show 2 * 0 + _ ≤ _; exact Nat.le_of_eq rfl) (hb hby at_74) (fun _ _ => ⟨rfl, e25, (by decide : 0 + 0 ≤ _), (by decide : 0 + 0 ≤ _)⟩)
      dsimp only [Pt.U, Pt.locs, Pt.cells, Pt.slots] at X26 l26 y26 z26 st26 hQ26
      subst l26 y26 z26
      obtain ⟨rfl, rfl, e26⟩ := hQ26
      try rw [List.append_nil] at X26
      obtain ⟨fs, hr, hrun, hended, hW, hsame⟩ := X26.leave (v := some (.int (1 : Int32))) (fun h => by rw [Bd.returns] at h; cases h)
      refine ⟨_, _, pre22 _ ?_, hrun, hended, _, _, rfl, ?_, ⟨_, rfl⟩, hW, hsame.mono (by decide) (by decide)⟩
      · show Steps _ _ _ (T20.setTop (mkF m 16 #[vI p1, vI p2, vI 2, vI 0, .unset, .unset, .unset, .unset] [])) _
        refine XS.iloadN X20.here hx rfl (hb hby at_16) rfl ?_
        show Steps _ _ _ (T20.setTop (mkF m 17 #[vI p1, vI p2, vI 2, vI 0, .unset, .unset, .unset, .unset] [iI 2])) _
        refine st25 _ ?_
        show Steps _ _ _ (T25.setTop (mkF m 20 #[vI p1, vI p2, vI 2, vI 0, .unset, .unset, .unset, .unset] [iR s_MANY_TO_ONE])) _
        refine XS.astore X25.here hx rfl (hb hby at_20) rfl rfl (l' := #[vI p1, vI p2, vI 2, vI 0, vR s_MANY_TO_ONE, .unset, .unset, .unset]) rfl ?_
        show Steps _ _ _ (T25.setTop (mkF m 22 #[vI p1, vI p2, vI 2, vI 0, vR s_MANY_TO_ONE, .unset, .unset, .unset] [])) _
        refine XS.iloadN X25.here hx rfl (hb hby at_22) rfl ?_
        show Steps _ _ _ (T25.setTop (mkF m 23 #[vI p1, vI p2, vI 2, vI 0, vR s_MANY_TO_ONE, .unset, .unset, .unset] [iI 2])) _
        refine XS.iconst X25.here hx rfl (hb hby at_23) ?_
        show Steps _ _ _ (T25.setTop (mkF m 24 #[vI p1, vI p2, vI 2, vI 0, vR s_MANY_TO_ONE, .unset, .unset, .unset] [iI 2, iI 2])) _
        refine XS.icmpYes X25.here hx rfl (pc0 := 24) (pc' := 32) rfl (hb hby at_24) rfl (teq (by decide : (2 : Int32) = (2 : Int32))).1 (by decide) (by decide) ?_
        show Steps _ _ _ (T25.setTop (mkF m 32 #[vI p1, vI p2, vI 2, vI 0, vR s_MANY_TO_ONE, .unset, .unset, .unset] [])) _
        refine XS.iconst X25.here hx rfl (hb hby at_32) ?_
        show Steps _ _ _ (T25.setTop (mkF m 33 #[vI p1, vI p2, vI 2, vI 0, vR s_MANY_TO_ONE, .unset, .unset, .unset] [iI 1])) _
        refine XS.goto X25.here hx rfl (pc0 := 33) (pc' := 37) rfl (hb hby at_33) (by decide) (by decide) ?_
        show Steps _ _ _ (T25.setTop (mkF m 37 #[vI p1, vI p2, vI 2, vI 0, vR s_MANY_TO_ONE, .unset, .unset, .unset] [iI 1])) _
        refine XS.istore X25.here hx rfl (hb hby at_37) rfl (l' := #[vI p1, vI p2, vI 2, vI 0, vR s_MANY_TO_ONE, vI 1, .unset, .unset]) rfl ?_
        show Steps _ _ _ (T25.setTop (mkF m 39 #[vI p1, vI p2, vI 2, vI 0, vR s_MANY_TO_ONE, vI 1, .unset, .unset] [])) _
        refine XS.iloadN X25.here hx rfl (hb hby at_39) rfl ?_
        show Steps _ _ _ (T25.setTop (mkF m 40 #[vI p1, vI p2, vI 2, vI 0, vR s_MANY_TO_ONE, vI 1, .unset, .unset] [iI 2])) _
        refine XS.iconst X25.here hx rfl (hb hby at_40) ?_
        show Steps _ _ _ (T25.setTop (mkF m 41 #[vI p1, vI p2, vI 2, vI 0, vR s_MANY_TO_ONE, vI 1, .unset, .unset] [iI 1, iI 2])) _
        refine XS.icmpNo X25.here hx rfl (hb hby at_41) rfl (feq (by decide : ¬ ((2 : Int32) = (1 : Int32)))).1 ?_
        show Steps _ _ _ (T25.setTop (mkF m 44 #[vI p1, vI p2, vI 2, vI 0, vR s_MANY_TO_ONE, vI 1, .unset, .unset] [])) _
        refine XS.iloadN X25.here hx rfl (hb hby at_44) rfl ?_
        show Steps _ _ _ (T25.setTop (mkF m 45 #[vI p1, vI p2, vI 2, vI 0, vR s_MANY_TO_ONE, vI 1, .unset, .unset] [iI 2])) _
        refine XS.iconst X25.here hx rfl (hb hby at_45) ?_
        show Steps _ _ _ (T25.setTop (mkF m 46 #[vI p1, vI p2, vI 2, vI 0, vR s_MANY_TO_ONE, vI 1, .unset, .unset] [iI 3, iI 2])) _
        refine XS.icmpYes X25.here hx rfl (pc0 := 46) (pc' := 53) rfl (hb hby at_46) rfl (feq (by decide : ¬ ((2 : Int32) = (3 : Int32)))).2 (by decide) (by decide) ?_
        show Steps _ _ _ (T25.setTop (mkF m 53 #[vI p1, vI p2, vI 2, vI 0, vR s_MANY_TO_ONE, vI 1, .unset, .unset] [])) _
        refine XS.iconst X25.here hx rfl (hb hby at_53) ?_
        show Steps _ _ _ (T25.setTop (mkF m 54 #[vI p1, vI p2, vI 2, vI 0, vR s_MANY_TO_ONE, vI 1, .unset, .unset] [iI 0])) _
        refine XS.istore X25.here hx rfl (hb hby at_54) rfl (l' := #[vI p1, vI p2, vI 2, vI 0, vR s_MANY_TO_ONE, vI 1, vI 0, .unset]) rfl ?_
        show Steps _ _ _ (T25.setTop (mkF m 56 #[vI p1, vI p2, vI 2, vI 0, vR s_MANY_TO_ONE, vI 1, vI 0, .unset] [])) _
        refine XS.iloadN X25.here hx rfl (hb hby at_56) rfl ?_
        show Steps _ _ _ (T25.setTop (mkF m 57 #[vI p1, vI p2, vI 2, vI 0, vR s_MANY_TO_ONE, vI 1, vI 0, .unset] [iI 0])) _
        refine XS.ifYes X25.here hx rfl (pc0 := 57) (pc' := 67) rfl (hb hby at_57) rfl ((if0 _ _).trans (teq (by decide : (0 : Int32) = (0 : Int32))).1) (by decide) (by decide) ?_
        show Steps _ _ _ (T25.setTop (mkF m 67 #[vI p1, vI p2, vI 2, vI 0, vR s_MANY_TO_ONE, vI 1, vI 0, .unset] [])) _
        refine XS.iload X25.here hx rfl (hb hby at_67) rfl ?_
        show Steps _ _ _ (T25.setTop (mkF m 69 #[vI p1, vI p2, vI 2, vI 0, vR s_MANY_TO_ONE, vI 1, vI 0, .unset] [iI 1])) _
        refine XS.istore X25.here hx rfl (hb hby at_69) rfl (l' := #[vI p1, vI p2, vI 2, vI 0, vR s_MANY_TO_ONE, vI 1, vI 0, vI 1]) rfl ?_
        show Steps _ _ _ (T25.setTop (mkF m 71 #[vI p1, vI p2, vI 2, vI 0, vR s_MANY_TO_ONE, vI 1, vI 0, vI 1] [])) _
        refine XS.aload X25.here hx rfl (hb hby at_71) rfl rfl ?_
        show Steps _ _ _ (T25.setTop (mkF m 73 #[vI p1, vI p2, vI 2, vI 0, vR s_MANY_TO_ONE, vI 1, vI 0, vI 1] [iR s_MANY_TO_ONE])) _
        refine XS.iloadN X25.here hx rfl (hb hby at_73) rfl ?_
        show Steps _ _ _ (T25.setTop (mkF m 74 #[vI p1, vI p2, vI 2, vI 0, vR s_MANY_TO_ONE, vI 1, vI 0, vI 1] [iI 0, iR s_MANY_TO_ONE])) _
        refine st26.trans ?_
        show Steps _ _ _ (T26.setTop (mkF m 77 #[vI p1, vI p2, vI 2, vI 0, vR s_MANY_TO_ONE, vI 1, vI 0, vI 1] [iI 1])) _
        refine XS.iload X26.here hx rfl (hb hby at_77) rfl ?_
        show Steps _ _ _ (T26.setTop (mkF m 79 #[vI p1, vI p2, vI 2, vI 0, vR s_MANY_TO_ONE, vI 1, vI 0, vI 1] [iI 1, iI 1])) _
        refine XS.icmpNo X26.here hx rfl (hb hby at_79) rfl (teq (by decide : (1 : Int32) = (1 : Int32))).2 ?_
        show Steps _ _ _ (T26.setTop (mkF m 82 #[vI p1, vI p2, vI 2, vI 0, vR s_MANY_TO_ONE, vI 1, vI 0, vI 1] [])) _
        refine XS.iconst X26.here hx rfl (hb hby at_82) ?_
        show Steps _ _ _ (T26.setTop (mkF m 83 #[vI p1, vI p2, vI 2, vI 0, vR s_MANY_TO_ONE, vI 1, vI 0, vI 1] [iI 1])) _
        refine XS.goto X26.here hx rfl (pc0 := 83) (pc' := 87) rfl (hb hby at_83) (by decide) (by decide) ?_
        show Steps _ _ _ (T26.setTop (mkF m 87 #[vI p1, vI p2, vI 2, vI 0, vR s_MANY_TO_ONE, vI 1, vI 0, vI 1] [iI 1])) _
        exact retN X26 hx (t := .boolean) Bd.returns (by simp) (hb hby at_87) hr
      · show Q0 Z p1 p2 s_ONE_TO_ONE s_MANY_TO_ONE s_ONE_TO_MANY s_MANY_TO_MANY h0 _ T26.heap _
        rw [e26]
        exact ⟨rfl, rfl, rfl⟩
  · obtain ⟨v27, hv27⟩ : ∃ z : Int32, z = (if (p2 &&& (1 : Int32)) = (0 : Int32) then (0 : Int32) else (1 : Int32)) := ⟨_, rfl⟩
    obtain ⟨T28, X28, e28, st28⟩ : own_Mid X0 h0 (mkF m 7 #[vI p1, vI p2, vI 3, .unset, .unset, .unset, .unset, .unset] [iI (p2 &&& (1 : Int32))]) (mkF m 15 #[vI p1, vI p2, vI 3, .unset, .unset, .unset, .unset, .unset] [iI v27]) := by
      by_cases hc29 : (p2 &&& (1 : Int32)) = (0 : Int32)
      · refine ⟨s₁, X0, e0, fun t kt => ?_⟩
        subst hv27
        simp only [if_pos hc29] at kt
        show Steps _ _ _ (s₁.setTop (mkF m 7 #[vI p1, vI p2, vI 3, .unset, .unset, .unset, .unset, .unset] [iI (p2 &&& (1 : Int32))])) _
        refine XS.ifYes X0.here hx rfl (pc0 := 7) (pc' := 14) rfl (hb hby at_7) rfl ((if0 _ _).trans (teq hc29).1) (by decide) (by decide) ?_
        show Steps _ _ _ (s₁.setTop (mkF m 14 #[vI p1, vI p2, vI 3, .unset, .unset, .unset, .unset, .unset] [])) _
        refine XS.iconst X0.here hx rfl (hb hby at_14) ?_
        exact kt
      · refine ⟨s₁, X0, e0, fun t kt => ?_⟩
        subst hv27
        simp only [if_neg hc29] at kt
        show Steps _ _ _ (s₁.setTop (mkF m 7 #[vI p1, vI p2, vI 3, .unset, .unset, .unset, .unset, .unset] [iI (p2 &&& (1 : Int32))])) _
        refine XS.ifNo X0.here hx rfl (hb hby at_7) rfl ((if0 _ _).trans (feq hc29).1) ?_
        show Steps _ _ _ (s₁.setTop (mkF m 10 #[vI p1, vI p2, vI 3, .unset, .unset, .unset, .unset, .unset] [])) _
        refine XS.iconst X0.here hx rfl (hb hby at_10) ?_
        show Steps _ _ _ (s₁.setTop (mkF m 11 #[vI p1, vI p2, vI 3, .unset, .unset, .unset, .unset, .unset] [iI 1])) _
        refine XS.goto X0.here hx rfl (pc0 := 11) (pc' := 15) rfl (hb hby at_11) (by decide) (by decide) ?_
        exact kt
    have qb : v27 = 1 ∨ v27 = 0 := by rw [hv27]; split <;> simp
    have pre30 : ∀ t, Steps p.tables e below (T28.setTop (mkF m 16 #[vI p1, vI p2, vI 3, vI v27, .unset, .unset, .unset, .unset] [])) t → Steps p.tables e below (s₁.setTop (entryFrame m #[(.int p1), (.int p2)] maxLocals)) t := by
      intro t kt
      refine pre2 t ?_
      show Steps _ _ _ (s₁.setTop (mkF m 4 #[vI p1, vI p2, vI 3, .unset, .unset, .unset, .unset, .unset] [])) _
      refine XS.iloadN X0.here hx rfl (hb hby at_4) rfl ?_
      show Steps _ _ _ (s₁.setTop (mkF m 5 #[vI p1, vI p2, vI 3, .unset, .unset, .unset, .unset, .unset] [iI p2])) _
      refine XS.iconst X0.here hx rfl (hb hby at_5) ?_
      show Steps _ _ _ (s₁.setTop (mkF m 6 #[vI p1, vI p2, vI 3, .unset, .unset, .unset, .unset, .unset] [iI 1, iI p2])) _
      refine XS.iand X0.here hx rfl (hb hby at_6) rfl ?_
      show Steps _ _ _ (s₁.setTop (mkF m 7 #[vI p1, vI p2, vI 3, .unset, .unset, .unset, .unset, .unset] [iI (p2 &&& (1 : Int32))])) _
      refine st28 _ ?_
      show Steps _ _ _ (T28.setTop (mkF m 15 #[vI p1, vI p2, vI 3, .unset, .unset, .unset, .unset, .unset] [iI v27])) _
      refine XS.istoreN X28.here hx rfl (hb hby at_15) rfl (l' := #[vI p1, vI p2, vI 3, vI v27, .unset, .unset, .unset, .unset]) rfl ?_
      exact kt
    rcases qb with rfl | rfl
    · obtain ⟨_, _, ⟨T31, L31, k31, n31⟩, -, X31, ⟨Lc31, hQ31, l31, y31, z31⟩, st31⟩ := Jvm.LawKit.callS X28 hx (y := (⟨"com/example/columngen/columngen/workload/CardinalityToManyPinLaw", "pick", "(I)Lcom/example/columngen/columngen/workload/Cardinality;"⟩ : MethodName)) hown (mvT hZ (hw _ (List.mem_of_getElem? (i := 0) rfl))) (mvT hZ (hw _ (List.mem_of_getElem? (i := 1) rfl))) (mvT hZ (hw _ (List.mem_of_getElem? (i := 2) rfl))) (mvT hZ (hw _ (List.mem_of_getElem? (i := 3) rfl))) (by decide) (backOf (W := 0) (rm1_3 l Z a0 hw []  s_ONE_TO_ONE s_MANY_TO_ONE s_ONE_TO_MANY s_MANY_TO_MANY h0 S_ONE_TO_ONE E_ONE_TO_ONE F_manyOfTarget_ONE_TO_ONE S_MANY_TO_ONE E_MANY_TO_ONE F_manyOfTarget_MANY_TO_ONE F_manyOfSource_ONE_TO_ONE S_ONE_TO_MANY E_ONE_TO_MANY F_manyOfTarget_ONE_TO_MANY F_manyOfSource_MANY_TO_ONE S_MANY_TO_MANY E_MANY_TO_MANY F_manyOfSource_MANY_TO_MANY F_manyOfTarget_MANY_TO_MANY F_manyOfSource_ONE_TO_MANY) hZ (hw _ (List.mem_of_getElem? (i := 3) rfl)) (hw _ (List.mem_of_getElem? (i := 2) rfl)) (by decide) (by decide)) (g := (mkF m 17 #[vI p1, vI p2, vI 3, vI 1, .unset, .unset, .unset, .unset] [iI 3])) rfl (by rw [hml]; rfl) (argsL := [(.int (3 : Int32))]) (rest := []) (lenOf pd_0 rfl) rfl (by show 2 * 0 + _ ≤ _; exact Nat.le_of_eq rfl) (hb hby at_17) (fun _ _ => ⟨rfl, e28, (by decide : 0 + 0 ≤ _), (by decide : 0 + 0 ≤ _)⟩)
      dsimp only [Pt.U, Pt.locs, Pt.cells, Pt.slots] at X31 l31 y31 z31 st31 hQ31
      subst l31 y31 z31
      obtain ⟨rfl, rfl, e31⟩ := hQ31
      try rw [List.append_nil] at X31
      obtain ⟨cq32, kq32, q32a, q32b, q32c⟩ := isOf hZ e31 E_MANY_TO_MANY
      obtain ⟨_, _, ⟨T32, L32, k32, n32⟩, -, X32, ⟨Lc32, hQ32, l32, y32, z32⟩, st32⟩ := X31.virtualBack hx (y := (⟨"com/example/columngen/columngen/workload/Cardinality", "toMany", "(Z)Z"⟩ : MethodName)) (z := (⟨"com/example/columngen/columngen/workload/Cardinality", "toMany", "(Z)Z"⟩ : MethodName)) hown (mvT hZ (hw _ (List.mem_of_getElem? (i := 7) rfl))) (mvT hZ (hw _ (List.mem_of_getElem? (i := 8) rfl))) (notFace_of_selects (args := #[]) (mvT hZ (hw _ (List.mem_of_getElem? (i := 10) rfl)))) (mvT hZ (hw _ (List.mem_of_getElem? (i := 10) rfl))) (mvT hZ (hw _ (List.mem_of_getElem? (i := 9) rfl))) (by decide) (backOf (W := 0) (rm2_3_1 l Z a0 hw []  s_ONE_TO_ONE s_MANY_TO_ONE s_ONE_TO_MANY s_MANY_TO_MANY h0 S_ONE_TO_ONE E_ONE_TO_ONE F_manyOfTarget_ONE_TO_ONE S_MANY_TO_ONE E_MANY_TO_ONE F_manyOfTarget_MANY_TO_ONE F_manyOfSource_ONE_TO_ONE S_ONE_TO_MANY E_ONE_TO_MANY F_manyOfTarget_ONE_TO_MANY F_manyOfSource_MANY_TO_ONE S_MANY_TO_MANY E_MANY_TO_MANY F_manyOfSource_MANY_TO_MANY F_manyOfTarget_MANY_TO_MANY F_manyOfSource_ONE_TO_MANY) hZ (hw _ (List.mem_of_getElem? (i := 11) rfl)) (hw _ (List.mem_of_getElem? (i := 5) rfl)) (by decide) (by decide)) q32a q32c (g := (mkF m 74 #[vI p1, vI p2, vI 3, vI 1, vR s_MANY_TO_MANY, vI 1, vI 1, vI 1] [iI 1, iR s_MANY_TO_MANY])) rfl (by rw [hml]; rfl) (Steps.refl _) (argsL := [(.int (1 : Int32))]) (rest := []) (lenOf pd_1 rfl) rfl (by show 2 * 0 + _ ≤ _; exact Nat.le_of_eq rfl) (hb hby at_74) (fun _ _ => ⟨rfl, e31, (by decide : 0 + 0 ≤ _), (by decide : 0 + 0 ≤ _)⟩)
      dsimp only [Pt.U, Pt.locs, Pt.cells, Pt.slots] at X32 l32 y32 z32 st32 hQ32
      subst l32 y32 z32
      obtain ⟨rfl, rfl, e32⟩ := hQ32
      try rw [List.append_nil] at X32
      obtain ⟨fs, hr, hrun, hended, hW, hsame⟩ := X32.leave (v := some (.int (1 : Int32))) (fun h => by rw [Bd.returns] at h; cases h)
      refine ⟨_, _, pre30 _ ?_, hrun, hended, _, _, rfl, ?_, ⟨_, rfl⟩, hW, hsame.mono (by decide) (by decide)⟩
      · show Steps _ _ _ (T28.setTop (mkF m 16 #[vI p1, vI p2, vI 3, vI 1, .unset, .unset, .unset, .unset] [])) _
        refine XS.iloadN X28.here hx rfl (hb hby at_16) rfl ?_
        show Steps _ _ _ (T28.setTop (mkF m 17 #[vI p1, vI p2, vI 3, vI 1, .unset, .unset, .unset, .unset] [iI 3])) _
        refine st31 _ ?_
        show Steps _ _ _ (T31.setTop (mkF m 20 #[vI p1, vI p2, vI 3, vI 1, .unset, .unset, .unset, .unset] [iR s_MANY_TO_MANY])) _
        refine XS.astore X31.here hx rfl (hb hby at_20) rfl rfl (l' := #[vI p1, vI p2, vI 3, vI 1, vR s_MANY_TO_MANY, .unset, .unset, .unset]) rfl ?_
        show Steps _ _ _ (T31.setTop (mkF m 22 #[vI p1, vI p2, vI 3, vI 1, vR s_MANY_TO_MANY, .unset, .unset, .unset] [])) _
        refine XS.iloadN X31.here hx rfl (hb hby at_22) rfl ?_
        show Steps _ _ _ (T31.setTop (mkF m 23 #[vI p1, vI p2, vI 3, vI 1, vR s_MANY_TO_MANY, .unset, .unset, .unset] [iI 3])) _
        refine XS.iconst X31.here hx rfl (hb hby at_23) ?_
        show Steps _ _ _ (T31.setTop (mkF m 24 #[vI p1, vI p2, vI 3, vI 1, vR s_MANY_TO_MANY, .unset, .unset, .unset] [iI 2, iI 3])) _
        refine XS.icmpNo X31.here hx rfl (hb hby at_24) rfl (feq (by decide : ¬ ((3 : Int32) = (2 : Int32)))).1 ?_
        show Steps _ _ _ (T31.setTop (mkF m 27 #[vI p1, vI p2, vI 3, vI 1, vR s_MANY_TO_MANY, .unset, .unset, .unset] [])) _
        refine XS.iloadN X31.here hx rfl (hb hby at_27) rfl ?_
        show Steps _ _ _ (T31.setTop (mkF m 28 #[vI p1, vI p2, vI 3, vI 1, vR s_MANY_TO_MANY, .unset, .unset, .unset] [iI 3])) _
        refine XS.iconst X31.here hx rfl (hb hby at_28) ?_
        show Steps _ _ _ (T31.setTop (mkF m 29 #[vI p1, vI p2, vI 3, vI 1, vR s_MANY_TO_MANY, .unset, .unset, .unset] [iI 3, iI 3])) _
        refine XS.icmpNo X31.here hx rfl (hb hby at_29) rfl (teq (by decide : (3 : Int32) = (3 : Int32))).2 ?_
        show Steps _ _ _ (T31.setTop (mkF m 32 #[vI p1, vI p2, vI 3, vI 1, vR s_MANY_TO_MANY, .unset, .unset, .unset] [])) _
        refine XS.iconst X31.here hx rfl (hb hby at_32) ?_
        show Steps _ _ _ (T31.setTop (mkF m 33 #[vI p1, vI p2, vI 3, vI 1, vR s_MANY_TO_MANY, .unset, .unset, .unset] [iI 1])) _
        refine XS.goto X31.here hx rfl (pc0 := 33) (pc' := 37) rfl (hb hby at_33) (by decide) (by decide) ?_
        show Steps _ _ _ (T31.setTop (mkF m 37 #[vI p1, vI p2, vI 3, vI 1, vR s_MANY_TO_MANY, .unset, .unset, .unset] [iI 1])) _
        refine XS.istore X31.here hx rfl (hb hby at_37) rfl (l' := #[vI p1, vI p2, vI 3, vI 1, vR s_MANY_TO_MANY, vI 1, .unset, .unset]) rfl ?_
        show Steps _ _ _ (T31.setTop (mkF m 39 #[vI p1, vI p2, vI 3, vI 1, vR s_MANY_TO_MANY, vI 1, .unset, .unset] [])) _
        refine XS.iloadN X31.here hx rfl (hb hby at_39) rfl ?_
        show Steps _ _ _ (T31.setTop (mkF m 40 #[vI p1, vI p2, vI 3, vI 1, vR s_MANY_TO_MANY, vI 1, .unset, .unset] [iI 3])) _
        refine XS.iconst X31.here hx rfl (hb hby at_40) ?_
        show Steps _ _ _ (T31.setTop (mkF m 41 #[vI p1, vI p2, vI 3, vI 1, vR s_MANY_TO_MANY, vI 1, .unset, .unset] [iI 1, iI 3])) _
        refine XS.icmpNo X31.here hx rfl (hb hby at_41) rfl (feq (by decide : ¬ ((3 : Int32) = (1 : Int32)))).1 ?_
        show Steps _ _ _ (T31.setTop (mkF m 44 #[vI p1, vI p2, vI 3, vI 1, vR s_MANY_TO_MANY, vI 1, .unset, .unset] [])) _
        refine XS.iloadN X31.here hx rfl (hb hby at_44) rfl ?_
        show Steps _ _ _ (T31.setTop (mkF m 45 #[vI p1, vI p2, vI 3, vI 1, vR s_MANY_TO_MANY, vI 1, .unset, .unset] [iI 3])) _
        refine XS.iconst X31.here hx rfl (hb hby at_45) ?_
        show Steps _ _ _ (T31.setTop (mkF m 46 #[vI p1, vI p2, vI 3, vI 1, vR s_MANY_TO_MANY, vI 1, .unset, .unset] [iI 3, iI 3])) _
        refine XS.icmpNo X31.here hx rfl (hb hby at_46) rfl (teq (by decide : (3 : Int32) = (3 : Int32))).2 ?_
        show Steps _ _ _ (T31.setTop (mkF m 49 #[vI p1, vI p2, vI 3, vI 1, vR s_MANY_TO_MANY, vI 1, .unset, .unset] [])) _
        refine XS.iconst X31.here hx rfl (hb hby at_49) ?_
        show Steps _ _ _ (T31.setTop (mkF m 50 #[vI p1, vI p2, vI 3, vI 1, vR s_MANY_TO_MANY, vI 1, .unset, .unset] [iI 1])) _
        refine XS.goto X31.here hx rfl (pc0 := 50) (pc' := 54) rfl (hb hby at_50) (by decide) (by decide) ?_
        show Steps _ _ _ (T31.setTop (mkF m 54 #[vI p1, vI p2, vI 3, vI 1, vR s_MANY_TO_MANY, vI 1, .unset, .unset] [iI 1])) _
        refine XS.istore X31.here hx rfl (hb hby at_54) rfl (l' := #[vI p1, vI p2, vI 3, vI 1, vR s_MANY_TO_MANY, vI 1, vI 1, .unset]) rfl ?_
        show Steps _ _ _ (T31.setTop (mkF m 56 #[vI p1, vI p2, vI 3, vI 1, vR s_MANY_TO_MANY, vI 1, vI 1, .unset] [])) _
        refine XS.iloadN X31.here hx rfl (hb hby at_56) rfl ?_
        show Steps _ _ _ (T31.setTop (mkF m 57 #[vI p1, vI p2, vI 3, vI 1, vR s_MANY_TO_MANY, vI 1, vI 1, .unset] [iI 1])) _
        refine XS.ifNo X31.here hx rfl (hb hby at_57) rfl ((if0 _ _).trans (feq (by decide : ¬ ((1 : Int32) = (0 : Int32)))).1) ?_
        show Steps _ _ _ (T31.setTop (mkF m 60 #[vI p1, vI p2, vI 3, vI 1, vR s_MANY_TO_MANY, vI 1, vI 1, .unset] [])) _
        refine XS.iload X31.here hx rfl (hb hby at_60) rfl ?_
        show Steps _ _ _ (T31.setTop (mkF m 62 #[vI p1, vI p2, vI 3, vI 1, vR s_MANY_TO_MANY, vI 1, vI 1, .unset] [iI 1])) _
        refine XS.istore X31.here hx rfl (hb hby at_62) rfl (l' := #[vI p1, vI p2, vI 3, vI 1, vR s_MANY_TO_MANY, vI 1, vI 1, vI 1]) rfl ?_
        show Steps _ _ _ (T31.setTop (mkF m 64 #[vI p1, vI p2, vI 3, vI 1, vR s_MANY_TO_MANY, vI 1, vI 1, vI 1] [])) _
        refine XS.goto X31.here hx rfl (pc0 := 64) (pc' := 71) rfl (hb hby at_64) (by decide) (by decide) ?_
        show Steps _ _ _ (T31.setTop (mkF m 71 #[vI p1, vI p2, vI 3, vI 1, vR s_MANY_TO_MANY, vI 1, vI 1, vI 1] [])) _
        refine XS.aload X31.here hx rfl (hb hby at_71) rfl rfl ?_
        show Steps _ _ _ (T31.setTop (mkF m 73 #[vI p1, vI p2, vI 3, vI 1, vR s_MANY_TO_MANY, vI 1, vI 1, vI 1] [iR s_MANY_TO_MANY])) _
        refine XS.iloadN X31.here hx rfl (hb hby at_73) rfl ?_
        show Steps _ _ _ (T31.setTop (mkF m 74 #[vI p1, vI p2, vI 3, vI 1, vR s_MANY_TO_MANY, vI 1, vI 1, vI 1] [iI 1, iR s_MANY_TO_MANY])) _
        refine st32.trans ?_
        show Steps _ _ _ (T32.setTop (mkF m 77 #[vI p1, vI p2, vI 3, vI 1, vR s_MANY_TO_MANY, vI 1, vI 1, vI 1] [iI 1])) _
        refine XS.iload X32.here hx rfl (hb hby at_77) rfl ?_
        show Steps _ _ _ (T32.setTop (mkF m 79 #[vI p1, vI p2, vI 3, vI 1, vR s_MANY_TO_MANY, vI 1, vI 1, vI 1] [iI 1, iI 1])) _
        refine XS.icmpNo X32.here hx rfl (hb hby at_79) rfl (teq (by decide : (1 : Int32) = (1 : Int32))).2 ?_
        show Steps _ _ _ (T32.setTop (mkF m 82 #[vI p1, vI p2, vI 3, vI 1, vR s_MANY_TO_MANY, vI 1, vI 1, vI 1] [])) _
        refine XS.iconst X32.here hx rfl (hb hby at_82) ?_
        show Steps _ _ _ (T32.setTop (mkF m 83 #[vI p1, vI p2, vI 3, vI 1, vR s_MANY_TO_MANY, vI 1, vI 1, vI 1] [iI 1])) _
        refine XS.goto X32.here hx rfl (pc0 := 83) (pc' := 87) rfl (hb hby at_83) (by decide) (by decide) ?_
        show Steps _ _ _ (T32.setTop (mkF m 87 #[vI p1, vI p2, vI 3, vI 1, vR s_MANY_TO_MANY, vI 1, vI 1, vI 1] [iI 1])) _
        exact retN X32 hx (t := .boolean) Bd.returns (by simp) (hb hby at_87) hr
      · show Q0 Z p1 p2 s_ONE_TO_ONE s_MANY_TO_ONE s_ONE_TO_MANY s_MANY_TO_MANY h0 _ T32.heap _
        rw [e32]
        exact ⟨rfl, rfl, rfl⟩
    · obtain ⟨_, _, ⟨T33, L33, k33, n33⟩, -, X33, ⟨Lc33, hQ33, l33, y33, z33⟩, st33⟩ := Jvm.LawKit.callS X28 hx (y := (⟨"com/example/columngen/columngen/workload/CardinalityToManyPinLaw", "pick", "(I)Lcom/example/columngen/columngen/workload/Cardinality;"⟩ : MethodName)) hown (mvT hZ (hw _ (List.mem_of_getElem? (i := 0) rfl))) (mvT hZ (hw _ (List.mem_of_getElem? (i := 1) rfl))) (mvT hZ (hw _ (List.mem_of_getElem? (i := 2) rfl))) (mvT hZ (hw _ (List.mem_of_getElem? (i := 3) rfl))) (by decide) (backOf (W := 0) (rm1_3 l Z a0 hw []  s_ONE_TO_ONE s_MANY_TO_ONE s_ONE_TO_MANY s_MANY_TO_MANY h0 S_ONE_TO_ONE E_ONE_TO_ONE F_manyOfTarget_ONE_TO_ONE S_MANY_TO_ONE E_MANY_TO_ONE F_manyOfTarget_MANY_TO_ONE F_manyOfSource_ONE_TO_ONE S_ONE_TO_MANY E_ONE_TO_MANY F_manyOfTarget_ONE_TO_MANY F_manyOfSource_MANY_TO_ONE S_MANY_TO_MANY E_MANY_TO_MANY F_manyOfSource_MANY_TO_MANY F_manyOfTarget_MANY_TO_MANY F_manyOfSource_ONE_TO_MANY) hZ (hw _ (List.mem_of_getElem? (i := 3) rfl)) (hw _ (List.mem_of_getElem? (i := 2) rfl)) (by decide) (by decide)) (g := (mkF m 17 #[vI p1, vI p2, vI 3, vI 0, .unset, .unset, .unset, .unset] [iI 3])) rfl (by rw [hml]; rfl) (argsL := [(.int (3 : Int32))]) (rest := []) (lenOf pd_0 rfl) rfl (by show 2 * 0 + _ ≤ _; exact Nat.le_of_eq rfl) (hb hby at_17) (fun _ _ => ⟨rfl, e28, (by decide : 0 + 0 ≤ _), (by decide : 0 + 0 ≤ _)⟩)
      dsimp only [Pt.U, Pt.locs, Pt.cells, Pt.slots] at X33 l33 y33 z33 st33 hQ33
      subst l33 y33 z33
      obtain ⟨rfl, rfl, e33⟩ := hQ33
      try rw [List.append_nil] at X33
      obtain ⟨cq34, kq34, q34a, q34b, q34c⟩ := isOf hZ e33 E_MANY_TO_MANY
      obtain ⟨_, _, ⟨T34, L34, k34, n34⟩, -, X34, ⟨Lc34, hQ34, l34, y34, z34⟩, st34⟩ := X33.virtualBack hx (y := (⟨"com/example/columngen/columngen/workload/Cardinality", "toMany", "(Z)Z"⟩ : MethodName)) (z := (⟨"com/example/columngen/columngen/workload/Cardinality", "toMany", "(Z)Z"⟩ : MethodName)) hown (mvT hZ (hw _ (List.mem_of_getElem? (i := 7) rfl))) (mvT hZ (hw _ (List.mem_of_getElem? (i := 8) rfl))) (notFace_of_selects (args := #[]) (mvT hZ (hw _ (List.mem_of_getElem? (i := 10) rfl)))) (mvT hZ (hw _ (List.mem_of_getElem? (i := 10) rfl))) (mvT hZ (hw _ (List.mem_of_getElem? (i := 9) rfl))) (by decide) (backOf (W := 0) (rm2_3_0 l Z a0 hw []  s_ONE_TO_ONE s_MANY_TO_ONE s_ONE_TO_MANY s_MANY_TO_MANY h0 S_ONE_TO_ONE E_ONE_TO_ONE F_manyOfTarget_ONE_TO_ONE S_MANY_TO_ONE E_MANY_TO_ONE F_manyOfTarget_MANY_TO_ONE F_manyOfSource_ONE_TO_ONE S_ONE_TO_MANY E_ONE_TO_MANY F_manyOfTarget_ONE_TO_MANY F_manyOfSource_MANY_TO_ONE S_MANY_TO_MANY E_MANY_TO_MANY F_manyOfSource_MANY_TO_MANY F_manyOfTarget_MANY_TO_MANY F_manyOfSource_ONE_TO_MANY) hZ (hw _ (List.mem_of_getElem? (i := 11) rfl)) (hw _ (List.mem_of_getElem? (i := 5) rfl)) (by decide) (by decide)) q34a q34c (g := (mkF m 74 #[vI p1, vI p2, vI 3, vI 0, vR s_MANY_TO_MANY, vI 1, vI 1, vI 1] [iI 0, iR s_MANY_TO_MANY])) rfl (by rw [hml]; rfl) (Steps.refl _) (argsL := [(.int (0 : Int32))]) (rest := []) (lenOf pd_1 rfl) rfl (by show 2 * 0 + _ ≤ _; exact Nat.le_of_eq rfl) (hb hby at_74) (fun _ _ => ⟨rfl, e33, (by decide : 0 + 0 ≤ _), (by decide : 0 + 0 ≤ _)⟩)
      dsimp only [Pt.U, Pt.locs, Pt.cells, Pt.slots] at X34 l34 y34 z34 st34 hQ34
      subst l34 y34 z34
      obtain ⟨rfl, rfl, e34⟩ := hQ34
      try rw [List.append_nil] at X34
      obtain ⟨fs, hr, hrun, hended, hW, hsame⟩ := X34.leave (v := some (.int (1 : Int32))) (fun h => by rw [Bd.returns] at h; cases h)
      refine ⟨_, _, pre30 _ ?_, hrun, hended, _, _, rfl, ?_, ⟨_, rfl⟩, hW, hsame.mono (by decide) (by decide)⟩
      · show Steps _ _ _ (T28.setTop (mkF m 16 #[vI p1, vI p2, vI 3, vI 0, .unset, .unset, .unset, .unset] [])) _
        refine XS.iloadN X28.here hx rfl (hb hby at_16) rfl ?_
        show Steps _ _ _ (T28.setTop (mkF m 17 #[vI p1, vI p2, vI 3, vI 0, .unset, .unset, .unset, .unset] [iI 3])) _
        refine st33 _ ?_
        show Steps _ _ _ (T33.setTop (mkF m 20 #[vI p1, vI p2, vI 3, vI 0, .unset, .unset, .unset, .unset] [iR s_MANY_TO_MANY])) _
        refine XS.astore X33.here hx rfl (hb hby at_20) rfl rfl (l' := #[vI p1, vI p2, vI 3, vI 0, vR s_MANY_TO_MANY, .unset, .unset, .unset]) rfl ?_
        show Steps _ _ _ (T33.setTop (mkF m 22 #[vI p1, vI p2, vI 3, vI 0, vR s_MANY_TO_MANY, .unset, .unset, .unset] [])) _
        refine XS.iloadN X33.here hx rfl (hb hby at_22) rfl ?_
        show Steps _ _ _ (T33.setTop (mkF m 23 #[vI p1, vI p2, vI 3, vI 0, vR s_MANY_TO_MANY, .unset, .unset, .unset] [iI 3])) _
        refine XS.iconst X33.here hx rfl (hb hby at_23) ?_
        show Steps _ _ _ (T33.setTop (mkF m 24 #[vI p1, vI p2, vI 3, vI 0, vR s_MANY_TO_MANY, .unset, .unset, .unset] [iI 2, iI 3])) _
        refine XS.icmpNo X33.here hx rfl (hb hby at_24) rfl (feq (by decide : ¬ ((3 : Int32) = (2 : Int32)))).1 ?_
        show Steps _ _ _ (T33.setTop (mkF m 27 #[vI p1, vI p2, vI 3, vI 0, vR s_MANY_TO_MANY, .unset, .unset, .unset] [])) _
        refine XS.iloadN X33.here hx rfl (hb hby at_27) rfl ?_
        show Steps _ _ _ (T33.setTop (mkF m 28 #[vI p1, vI p2, vI 3, vI 0, vR s_MANY_TO_MANY, .unset, .unset, .unset] [iI 3])) _
        refine XS.iconst X33.here hx rfl (hb hby at_28) ?_
        show Steps _ _ _ (T33.setTop (mkF m 29 #[vI p1, vI p2, vI 3, vI 0, vR s_MANY_TO_MANY, .unset, .unset, .unset] [iI 3, iI 3])) _
        refine XS.icmpNo X33.here hx rfl (hb hby at_29) rfl (teq (by decide : (3 : Int32) = (3 : Int32))).2 ?_
        show Steps _ _ _ (T33.setTop (mkF m 32 #[vI p1, vI p2, vI 3, vI 0, vR s_MANY_TO_MANY, .unset, .unset, .unset] [])) _
        refine XS.iconst X33.here hx rfl (hb hby at_32) ?_
        show Steps _ _ _ (T33.setTop (mkF m 33 #[vI p1, vI p2, vI 3, vI 0, vR s_MANY_TO_MANY, .unset, .unset, .unset] [iI 1])) _
        refine XS.goto X33.here hx rfl (pc0 := 33) (pc' := 37) rfl (hb hby at_33) (by decide) (by decide) ?_
        show Steps _ _ _ (T33.setTop (mkF m 37 #[vI p1, vI p2, vI 3, vI 0, vR s_MANY_TO_MANY, .unset, .unset, .unset] [iI 1])) _
        refine XS.istore X33.here hx rfl (hb hby at_37) rfl (l' := #[vI p1, vI p2, vI 3, vI 0, vR s_MANY_TO_MANY, vI 1, .unset, .unset]) rfl ?_
        show Steps _ _ _ (T33.setTop (mkF m 39 #[vI p1, vI p2, vI 3, vI 0, vR s_MANY_TO_MANY, vI 1, .unset, .unset] [])) _
        refine XS.iloadN X33.here hx rfl (hb hby at_39) rfl ?_
        show Steps _ _ _ (T33.setTop (mkF m 40 #[vI p1, vI p2, vI 3, vI 0, vR s_MANY_TO_MANY, vI 1, .unset, .unset] [iI 3])) _
        refine XS.iconst X33.here hx rfl (hb hby at_40) ?_
        show Steps _ _ _ (T33.setTop (mkF m 41 #[vI p1, vI p2, vI 3, vI 0, vR s_MANY_TO_MANY, vI 1, .unset, .unset] [iI 1, iI 3])) _
        refine XS.icmpNo X33.here hx rfl (hb hby at_41) rfl (feq (by decide : ¬ ((3 : Int32) = (1 : Int32)))).1 ?_
        show Steps _ _ _ (T33.setTop (mkF m 44 #[vI p1, vI p2, vI 3, vI 0, vR s_MANY_TO_MANY, vI 1, .unset, .unset] [])) _
        refine XS.iloadN X33.here hx rfl (hb hby at_44) rfl ?_
        show Steps _ _ _ (T33.setTop (mkF m 45 #[vI p1, vI p2, vI 3, vI 0, vR s_MANY_TO_MANY, vI 1, .unset, .unset] [iI 3])) _
        refine XS.iconst X33.here hx rfl (hb hby at_45) ?_
        show Steps _ _ _ (T33.setTop (mkF m 46 #[vI p1, vI p2, vI 3, vI 0, vR s_MANY_TO_MANY, vI 1, .unset, .unset] [iI 3, iI 3])) _
        refine XS.icmpNo X33.here hx rfl (hb hby at_46) rfl (teq (by decide : (3 : Int32) = (3 : Int32))).2 ?_
        show Steps _ _ _ (T33.setTop (mkF m 49 #[vI p1, vI p2, vI 3, vI 0, vR s_MANY_TO_MANY, vI 1, .unset, .unset] [])) _
        refine XS.iconst X33.here hx rfl (hb hby at_49) ?_
        show Steps _ _ _ (T33.setTop (mkF m 50 #[vI p1, vI p2, vI 3, vI 0, vR s_MANY_TO_MANY, vI 1, .unset, .unset] [iI 1])) _
        refine XS.goto X33.here hx rfl (pc0 := 50) (pc' := 54) rfl (hb hby at_50) (by decide) (by decide) ?_
        show Steps _ _ _ (T33.setTop (mkF m 54 #[vI p1, vI p2, vI 3, vI 0, vR s_MANY_TO_MANY, vI 1, .unset, .unset] [iI 1])) _
        refine XS.istore X33.here hx rfl (hb hby at_54) rfl (l' := #[vI p1, vI p2, vI 3, vI 0, vR s_MANY_TO_MANY, vI 1, vI 1, .unset]) rfl ?_
        show Steps _ _ _ (T33.setTop (mkF m 56 #[vI p1, vI p2, vI 3, vI 0, vR s_MANY_TO_MANY, vI 1, vI 1, .unset] [])) _
        refine XS.iloadN X33.here hx rfl (hb hby at_56) rfl ?_
        show Steps _ _ _ (T33.setTop (mkF m 57 #[vI p1, vI p2, vI 3, vI 0, vR s_MANY_TO_MANY, vI 1, vI 1, .unset] [iI 0])) _
        refine XS.ifYes X33.here hx rfl (pc0 := 57) (pc' := 67) rfl (hb hby at_57) rfl ((if0 _ _).trans (teq (by decide : (0 : Int32) = (0 : Int32))).1) (by decide) (by decide) ?_
        show Steps _ _ _ (T33.setTop (mkF m 67 #[vI p1, vI p2, vI 3, vI 0, vR s_MANY_TO_MANY, vI 1, vI 1, .unset] [])) _
        refine XS.iload X33.here hx rfl (hb hby at_67) rfl ?_
        show Steps _ _ _ (T33.setTop (mkF m 69 #[vI p1, vI p2, vI 3, vI 0, vR s_MANY_TO_MANY, vI 1, vI 1, .unset] [iI 1])) _
        refine XS.istore X33.here hx rfl (hb hby at_69) rfl (l' := #[vI p1, vI p2, vI 3, vI 0, vR s_MANY_TO_MANY, vI 1, vI 1, vI 1]) rfl ?_
        show Steps _ _ _ (T33.setTop (mkF m 71 #[vI p1, vI p2, vI 3, vI 0, vR s_MANY_TO_MANY, vI 1, vI 1, vI 1] [])) _
        refine XS.aload X33.here hx rfl (hb hby at_71) rfl rfl ?_
        show Steps _ _ _ (T33.setTop (mkF m 73 #[vI p1, vI p2, vI 3, vI 0, vR s_MANY_TO_MANY, vI 1, vI 1, vI 1] [iR s_MANY_TO_MANY])) _
        refine XS.iloadN X33.here hx rfl (hb hby at_73) rfl ?_
        show Steps _ _ _ (T33.setTop (mkF m 74 #[vI p1, vI p2, vI 3, vI 0, vR s_MANY_TO_MANY, vI 1, vI 1, vI 1] [iI 0, iR s_MANY_TO_MANY])) _
        refine st34.trans ?_
        show Steps _ _ _ (T34.setTop (mkF m 77 #[vI p1, vI p2, vI 3, vI 0, vR s_MANY_TO_MANY, vI 1, vI 1, vI 1] [iI 1])) _
        refine XS.iload X34.here hx rfl (hb hby at_77) rfl ?_
        show Steps _ _ _ (T34.setTop (mkF m 79 #[vI p1, vI p2, vI 3, vI 0, vR s_MANY_TO_MANY, vI 1, vI 1, vI 1] [iI 1, iI 1])) _
        refine XS.icmpNo X34.here hx rfl (hb hby at_79) rfl (teq (by decide : (1 : Int32) = (1 : Int32))).2 ?_
        show Steps _ _ _ (T34.setTop (mkF m 82 #[vI p1, vI p2, vI 3, vI 0, vR s_MANY_TO_MANY, vI 1, vI 1, vI 1] [])) _
        refine XS.iconst X34.here hx rfl (hb hby at_82) ?_
        show Steps _ _ _ (T34.setTop (mkF m 83 #[vI p1, vI p2, vI 3, vI 0, vR s_MANY_TO_MANY, vI 1, vI 1, vI 1] [iI 1])) _
        refine XS.goto X34.here hx rfl (pc0 := 83) (pc' := 87) rfl (hb hby at_83) (by decide) (by decide) ?_
        show Steps _ _ _ (T34.setTop (mkF m 87 #[vI p1, vI p2, vI 3, vI 0, vR s_MANY_TO_MANY, vI 1, vI 1, vI 1] [iI 1])) _
        exact retN X34 hx (t := .boolean) Bd.returns (by simp) (hb hby at_87) hr
      · show Q0 Z p1 p2 s_ONE_TO_ONE s_MANY_TO_ONE s_ONE_TO_MANY s_MANY_TO_MANY h0 _ T34.heap _
        rw [e34]
        exact ⟨rfl, rfl, rfl⟩
set_option maxRecDepth 65536 in
set_option maxHeartbeats 40000000 in
theorem comes_1 {Post : Tables → Env → Array Value → State → Outcome → State → Prop} (hpost : ∀ tb e args s v u, (limb_1_1.after args s (.returned v) u = true ∧ limb_1_2.after args s (.returned v) u = true ∧ True) → FrameEnd s (.returned v) u (Jvm.fieldLocs frame_1_writes args s ++ Jvm.arrayLocs frame_1_arrays args s ++ Jvm.staticLocs frame_1_statics s) 0 0 → Post tb e args s (.returned v) u) :
    ArmFor flags0 classFile x code maxLocals ret World_1 tables_1 room_1 Calls_1 rest_1 Pre_1 Post := by
  intro l hfl _ _ p e ha hc hk s m args below hf hA hF happ hP
  obtain ⟨hcalls, hrest, hpre⟩ := hP
  obtain ⟨-, -, -, hnamed, -, -, -, hat⟩ := (Spec.applies_iff hf).mp happ
  obtain ⟨hg, hn⟩ := and_e (Cond.before_iff.mp (show (Jvm.Cond.and given_1 narrow_1).before args s = true from hpre))
  obtain ⟨gc, gr0⟩ := and_e hg
  obtain ⟨ga0, gr1⟩ := and_e gr0
  obtain ⟨w0, w1, rfl⟩ : ∃ w0 w1 : Value, args = #[w0, w1] := by
    have hs : args.size = 2 := by simpa [Cond.value, given_1] using gc
    obtain ⟨L⟩ := args
    match L, hs with
    | [w0, w1], _ => exact ⟨w0, w1, rfl⟩
  have hw := fun d (hd : d ∈ tables_1) => atoms_spec (ws := Jvm.Cond.code x code maxLocals ret :: tables_1) hat d (List.mem_cons_of_mem _ hd)
  have hfit : Fit s := fun {y c} hc i hi => by
    obtain ⟨ha, rfl⟩ := Array.getElem?_eq_some_iff.mp hc
    have q := List.all_eq_true.mp ((Array.all_eq_true_iff_forall_mem.mp hF) _ (Array.getElem_mem ha)) i (List.mem_range.mpr hi)
    simpa [Array.getElem?_eq_getElem hi] using q
  obtain ⟨i0, ei0⟩ := is_v ga0
  obtain rfl : w0 = (.int i0) := Option.some.inj ei0
  obtain ⟨i1, ei1⟩ := is_v gr1
  obtain rfl : w1 = (.int i1) := Option.some.inj ei1
  obtain ⟨u0, t0⟩ := and_e hn
  obtain ⟨u1, t1⟩ := and_e t0
  obtain ⟨u2, t2⟩ := and_e t1
  obtain ⟨u3, t3⟩ := and_e t2
  obtain ⟨u4, t4⟩ := and_e t3
  obtain ⟨u5, t5⟩ := and_e t4
  obtain ⟨u6, t6⟩ := and_e t5
  obtain ⟨u7, t7⟩ := and_e t6
  obtain ⟨u8, t8⟩ := and_e t7
  obtain ⟨u9, t9⟩ := and_e t8
  obtain ⟨u10, t10⟩ := and_e t9
  have u11 := t10
  obtain ⟨s_ONE_TO_ONE, ev_ONE_TO_ONE⟩ := exa_v u0
  have S_ONE_TO_ONE : Sta s s.heap "com/example/columngen/columngen/workload/Cardinality" "ONE_TO_ONE" "Lcom/example/columngen/columngen/workload/Cardinality;" (.ref s_ONE_TO_ONE) := Sta.start ev_ONE_TO_ONE (Or.inr ⟨(hw _ (List.mem_of_getElem? (i := 5) rfl)), (hw _ (List.mem_of_getElem? (i := 6) rfl))⟩)
  have E_ONE_TO_ONE : Exa s s.heap s_ONE_TO_ONE "com/example/columngen/columngen/workload/Cardinality" := Exa.start ev_ONE_TO_ONE u0
  obtain ⟨s_MANY_TO_ONE, ev_MANY_TO_ONE⟩ := exa_v u2
  have S_MANY_TO_ONE : Sta s s.heap "com/example/columngen/columngen/workload/Cardinality" "MANY_TO_ONE" "Lcom/example/columngen/columngen/workload/Cardinality;" (.ref s_MANY_TO_ONE) := Sta.start ev_MANY_TO_ONE (Or.inr ⟨(hw _ (List.mem_of_getElem? (i := 5) rfl)), (hw _ (List.mem_of_getElem? (i := 15) rfl))⟩)
  have E_MANY_TO_ONE : Exa s s.heap s_MANY_TO_ONE "com/example/columngen/columngen/workload/Cardinality" := Exa.start ev_MANY_TO_ONE u2
  obtain ⟨s_ONE_TO_MANY, ev_ONE_TO_MANY⟩ := exa_v u5
  have S_ONE_TO_MANY : Sta s s.heap "com/example/columngen/columngen/workload/Cardinality" "ONE_TO_MANY" "Lcom/example/columngen/columngen/workload/Cardinality;" (.ref s_ONE_TO_MANY) := Sta.start ev_ONE_TO_MANY (Or.inr ⟨(hw _ (List.mem_of_getElem? (i := 5) rfl)), (hw _ (List.mem_of_getElem? (i := 19) rfl))⟩)
  have E_ONE_TO_MANY : Exa s s.heap s_ONE_TO_MANY "com/example/columngen/columngen/workload/Cardinality" := Exa.start ev_ONE_TO_MANY u5
  obtain ⟨s_MANY_TO_MANY, ev_MANY_TO_MANY⟩ := exa_v u8
  have S_MANY_TO_MANY : Sta s s.heap "com/example/columngen/columngen/workload/Cardinality" "MANY_TO_MANY" "Lcom/example/columngen/columngen/workload/Cardinality;" (.ref s_MANY_TO_MANY) := Sta.start ev_MANY_TO_MANY (Or.inr ⟨(hw _ (List.mem_of_getElem? (i := 5) rfl)), (hw _ (List.mem_of_getElem? (i := 21) rfl))⟩)
  have E_MANY_TO_MANY : Exa s s.heap s_MANY_TO_MANY "com/example/columngen/columngen/workload/Cardinality" := Exa.start ev_MANY_TO_MANY u8
  have F_manyOfTarget_ONE_TO_ONE : Fld s s.heap s_ONE_TO_ONE "com/example/columngen/columngen/workload/Cardinality" "manyOfTarget" "Z" (.int (0 : Int32)) := own_fldEq ev_ONE_TO_ONE u1
  have F_manyOfTarget_MANY_TO_ONE : Fld s s.heap s_MANY_TO_ONE "com/example/columngen/columngen/workload/Cardinality" "manyOfTarget" "Z" (.int (0 : Int32)) := own_fldEq ev_MANY_TO_ONE u3
  have F_manyOfSource_ONE_TO_ONE : Fld s s.heap s_ONE_TO_ONE "com/example/columngen/columngen/workload/Cardinality" "manyOfSource" "Z" (.int (0 : Int32)) := own_fldEq ev_ONE_TO_ONE u4
  have F_manyOfTarget_ONE_TO_MANY : Fld s s.heap s_ONE_TO_MANY "com/example/columngen/columngen/workload/Cardinality" "manyOfTarget" "Z" (.int (1 : Int32)) := own_fldEq ev_ONE_TO_MANY u6
  have F_manyOfSource_MANY_TO_ONE : Fld s s.heap s_MANY_TO_ONE "com/example/columngen/columngen/workload/Cardinality" "manyOfSource" "Z" (.int (1 : Int32)) := own_fldEq ev_MANY_TO_ONE u7
  have F_manyOfSource_MANY_TO_MANY : Fld s s.heap s_MANY_TO_MANY "com/example/columngen/columngen/workload/Cardinality" "manyOfSource" "Z" (.int (1 : Int32)) := own_fldEq ev_MANY_TO_MANY u9
  have F_manyOfTarget_MANY_TO_MANY : Fld s s.heap s_MANY_TO_MANY "com/example/columngen/columngen/workload/Cardinality" "manyOfTarget" "Z" (.int (1 : Int32)) := own_fldEq ev_MANY_TO_MANY u10
  have F_manyOfSource_ONE_TO_MANY : Fld s s.heap s_ONE_TO_MANY "com/example/columngen/columngen/workload/Cardinality" "manyOfSource" "Z" (.int (0 : Int32)) := own_fldEq ev_ONE_TO_MANY u11
  obtain ⟨n, o, h1, h2, h3, _, L, rfl, Qv, hq⟩ := rm0 l s _ hw tables_1 i0 i1 s_ONE_TO_ONE s_MANY_TO_ONE s_ONE_TO_MANY s_MANY_TO_MANY s.heap S_ONE_TO_ONE E_ONE_TO_ONE F_manyOfTarget_ONE_TO_ONE S_MANY_TO_ONE E_MANY_TO_ONE F_manyOfTarget_MANY_TO_ONE F_manyOfSource_ONE_TO_ONE S_ONE_TO_MANY E_ONE_TO_MANY F_manyOfTarget_ONE_TO_MANY F_manyOfSource_MANY_TO_ONE S_MANY_TO_MANY E_MANY_TO_MANY F_manyOfSource_MANY_TO_MANY F_manyOfTarget_MANY_TO_MANY F_manyOfSource_ONE_TO_MANY p e ha hc hk s m _ below hf ((Spec.applies_iff_loose hf).mp happ).1 ⟨rfl, State.Warmed39.refl s, rfl⟩ trivial
  obtain ⟨rfl, rfl, -⟩ := Qv
  have N := Fr.nil s.heap.size
  refine ⟨n, _, h1, h2, h3, hpost _ _ _ _ _ _ ⟨Cond.after_iff.mpr rfl, Cond.after_iff.mpr (eq_i res_at (Term.int_eval (1)) rfl), trivial⟩ ⟨hq.1, hq.2.1, (hq.2.2.sift fun y hy => Or.inr (N y hy)).mono (by decide) (by decide)⟩⟩
theorem main_1_1 : Claimed_1_1 := comes_1 fun _ _ _ _ _ _ h hF => ⟨h.1, hF⟩
theorem main_1_2 : Claimed_1_2 := comes_1 fun _ _ _ _ _ _ h hF => ⟨h.2.1, hF⟩
end Jvm.Pilot.@@N@@
namespace Jvm.Pilot.@@N@@
open Jvm Jvm.ClassFile Sem Op Lib Jvm.Free Jvm.Stand Jvm.Pilot.@@N@@.Jvm.D
/-! MADE BY PROGRAM (witnessworld.py) out of the Statement's table words and the real class files: 12 classes; the members and pool entries that the words name. The judged class is class 1, her method 2. -/
namespace start1
open Jvm.ClassFile
def u (s : String) : CpInfo := .utf8 (stringToUtf16 s)
/-- a pool by its gaps: so many unusable entries, then the entry; so many at the end -/
def gap : Nat → List CpInfo → List CpInfo
  | 0, r => r
  | n + 1, r => .unusable :: gap n r
def poolList (es : List (Nat × CpInfo)) (last : Nat) : List CpInfo := es.foldr (fun e r => gap e.1 (e.2 :: r)) (gap last [])
def pool (es : List (Nat × CpInfo)) (last : Nat) : Array CpInfo := ⟨poolList es last⟩
def fileOf (pool : Array CpInfo) (this : Nat) (attrs : Array Attribute := #[]) (ms : Array MethodInfo := #[]) (fl : Nat := 33) (sup : Nat := 0) (ifs : Array Nat := #[]) (fds : Array FieldInfo := #[]) : ClassFile where
  minorVersion := 0
  majorVersion := 65
  constantPool := pool
  accessFlags := fl
  thisClass := this
  superClass := sup
  interfaces := ifs
  fields := fds
  methods := ms
  attributes := attrs
def plain (name : String) (sup : Option ClassId) : Class where
  name := name
  kind := .ordinary
  loader := none
  accessFlags := 33
  super := sup
  interfaces := #[]
  cf := none
  fields := #[]
  methods := #[]
  instanceTypes := #[]
  staticTypes := #[]
  resolved := #[]
  callSites := []
  init := .initialized
  statics := none
  mirror := none

def pool0 : Array CpInfo := pool [(5, u "<init>"), (0, u "()V"), (1, .class_ 10), (1, u "java/lang/Object")] 113

def k0m0 : Method := { name := "<init>", desc := "()V", sig := { parameters := [], returnType := none }, accessFlags := 1, code := none }
/-- java/lang/Object -/
def k0 : Class := { plain "java/lang/Object" none with
  accessFlags := 33
  interfaces := #[]
  cf := some (fileOf pool0 8 #[] #[{ accessFlags := 1, nameIndex := 5, descriptorIndex := 6, attributes := #[] }] 33 0 #[] #[])
  fields := #[]
  methods := #[k0m0]
  instanceTypes := #[]
  staticTypes := #[]
  resolved := Array.replicate 124 none
  statics := none }

def pool1 : Array CpInfo := pool [(2, .class_ 4), (1, u "java/lang/Object"), (0, u "<init>"), (0, u "()V"), (0, .fieldref 8 9), (0, .class_ 10), (0, .nameAndType 11 12), (0, u "com/example/columngen/columngen/workload/Cardinality"), (0, u "ONE_TO_ONE"), (0, u "Lcom/example/columngen/columngen/workload/Cardinality;"), (0, .fieldref 8 14), (0, .nameAndType 15 12), (0, u "ONE_TO_MANY"), (0, .fieldref 8 17), (0, .nameAndType 18 12), (0, u "MANY_TO_ONE"), (0, .fieldref 8 20), (0, .nameAndType 21 12), (0, u "MANY_TO_MANY"), (0, .methodref 23 24), (0, .class_ 25), (0, .nameAndType 26 27), (0, u "com/example/columngen/columngen/workload/CardinalityToManyPinLaw"), (0, u "pick"), (0, u "(I)Lcom/example/columngen/columngen/workload/Cardinality;"), (0, .methodref 8 29), (0, .nameAndType 30 31), (0, u "toMany"), (0, u "(Z)Z"), (3, u "law"), (0, u "(II)Z")] 2

def k1m0 : Method := { name := "<init>", desc := "()V", sig := { parameters := [], returnType := none }, accessFlags := 2, code := none }
def k1c1 : Code := { maxStack := 2, maxLocals := 1, code := method_2_code, exceptionTable := #[], attributes := #[] }
def k1m1 : Method := { name := "pick", desc := "(I)Lcom/example/columngen/columngen/workload/Cardinality;", sig := { parameters := [.int], returnType := some (.object "com/example/columngen/columngen/workload/Cardinality") }, accessFlags := 10, code := some k1c1 }
def k1c2 : Code := { maxStack := 2, maxLocals := 8, code := code, exceptionTable := #[], attributes := #[] }
def k1m2 : Method := { name := "law", desc := "(II)Z", sig := { parameters := [.int, .int], returnType := some .boolean }, accessFlags := 9, code := some k1c2 }
/-- com/example/columngen/columngen/workload/CardinalityToManyPinLaw -/
def k1 : Class := { plain "com/example/columngen/columngen/workload/CardinalityToManyPinLaw" (some 0) with
  accessFlags := 49
  interfaces := #[]
  cf := some (fileOf pool1 23 #[] #[{ accessFlags := 2, nameIndex := 5, descriptorIndex := 6, attributes := #[] }, { accessFlags := 10, nameIndex := 26, descriptorIndex := 27, attributes := #[] }, { accessFlags := 9, nameIndex := 35, descriptorIndex := 36, attributes := #[] }] 49 2 #[] #[])
  fields := #[]
  methods := #[k1m0, k1m1, k1m2]
  instanceTypes := #[]
  staticTypes := #[]
  resolved := Array.replicate 39 none
  statics := none }

def pool2 : Array CpInfo := pool [(1, .class_ 2), (0, u "java/lang/constant/Constable"), (0, .class_ 4), (0, u "java/lang/Object")] 6

/-- java/lang/constant/Constable -/
def k2 : Class := { plain "java/lang/constant/Constable" (some 0) with
  accessFlags := 1537
  interfaces := #[]
  cf := some (fileOf pool2 1 #[] #[] 1537 3 #[] #[])
  fields := #[]
  methods := #[]
  instanceTypes := #[]
  staticTypes := #[]
  resolved := Array.replicate 11 none
  statics := none }

def pool3 : Array CpInfo := pool [(1, .class_ 2), (0, u "java/lang/Comparable"), (0, .class_ 4), (0, u "java/lang/Object")] 7

/-- java/lang/Comparable -/
def k3 : Class := { plain "java/lang/Comparable" (some 0) with
  accessFlags := 1537
  interfaces := #[]
  cf := some (fileOf pool3 1 #[] #[] 1537 3 #[] #[])
  fields := #[]
  methods := #[]
  instanceTypes := #[]
  staticTypes := #[]
  resolved := Array.replicate 12 none
  statics := none }

def pool4 : Array CpInfo := pool [(1, .class_ 2), (0, u "java/io/Serializable"), (0, .class_ 4), (0, u "java/lang/Object")] 2

/-- java/io/Serializable -/
def k4 : Class := { plain "java/io/Serializable" (some 0) with
  accessFlags := 1537
  interfaces := #[]
  cf := some (fileOf pool4 1 #[] #[] 1537 3 #[] #[])
  fields := #[]
  methods := #[]
  instanceTypes := #[]
  staticTypes := #[]
  resolved := Array.replicate 7 none
  statics := none }

def pool5 : Array CpInfo := pool [(2, .class_ 4), (1, u "java/lang/Enum"), (0, u "name"), (0, u "Ljava/lang/String;"), (2, u "ordinal"), (0, u "I"), (1, .class_ 14), (1, u "java/lang/Object"), (4, u "hash"), (86, .class_ 108), (1, u "java/lang/Enum$EnumDesc"), (2, .class_ 112), (0, u "java/lang/constant/Constable"), (0, .class_ 114), (0, u "java/lang/Comparable"), (0, .class_ 116), (0, u "java/io/Serializable")] 87

/-- java/lang/Enum -/
def k5 : Class := { plain "java/lang/Enum" (some 0) with
  accessFlags := 1057
  interfaces := #[2, 3, 4]
  cf := some (fileOf pool5 2 #[.nestMembers #[106]] #[] 1057 12 #[111, 113, 115] #[{ accessFlags := 18, nameIndex := 5, descriptorIndex := 6, attributes := #[] }, { accessFlags := 18, nameIndex := 9, descriptorIndex := 10, attributes := #[] }, { accessFlags := 2, nameIndex := 19, descriptorIndex := 10, attributes := #[] }])
  fields := #[{ name := "name", type := (.object "java/lang/String"), accessFlags := 18, slot := 0, constantValue := 0 }, { name := "ordinal", type := .int, accessFlags := 18, slot := 1, constantValue := 0 }, { name := "hash", type := .int, accessFlags := 2, slot := 2, constantValue := 0 }]
  methods := #[]
  instanceTypes := #[(.object "java/lang/String"), .int, .int]
  staticTypes := #[]
  resolved := Array.replicate 204 none
  statics := none }

def pool6 : Array CpInfo := pool [(1, .class_ 2), (0, u "com/example/columngen/columngen/workload/Cardinality"), (2, u "ONE_TO_ONE"), (0, u "Lcom/example/columngen/columngen/workload/Cardinality;"), (2, u "ONE_TO_MANY"), (2, u "MANY_TO_ONE"), (2, u "MANY_TO_MANY"), (2, u "$VALUES"), (0, u "[Lcom/example/columngen/columngen/workload/Cardinality;"), (6, .class_ 28), (1, u "java/lang/Enum"), (6, .fieldref 1 36), (0, .nameAndType 37 38), (0, u "manyOfTarget"), (0, u "Z"), (0, .fieldref 1 40), (0, .nameAndType 41 38), (0, u "manyOfSource"), (2, u "BY_KEYWORD"), (0, u "Ljava/util/Map;"), (84, u "toMany"), (0, u "(Z)Z")] 27

def k6c0 : Code := { maxStack := 1, maxLocals := 2, code := prog_70_method_6_code, exceptionTable := #[], attributes := #[] }
def k6m0 : Method := { name := "toMany", desc := "(Z)Z", sig := { parameters := [.boolean], returnType := some .boolean }, accessFlags := 1, code := some k6c0 }
/-- com/example/columngen/columngen/workload/Cardinality -/
def k6 : Class := { plain "com/example/columngen/columngen/workload/Cardinality" (some 5) with
  accessFlags := 16433
  interfaces := #[]
  cf := some (fileOf pool6 1 #[] #[{ accessFlags := 1, nameIndex := 130, descriptorIndex := 131, attributes := #[] }] 16433 26 #[] #[{ accessFlags := 16409, nameIndex := 5, descriptorIndex := 6, attributes := #[] }, { accessFlags := 16409, nameIndex := 9, descriptorIndex := 6, attributes := #[] }, { accessFlags := 16409, nameIndex := 12, descriptorIndex := 6, attributes := #[] }, { accessFlags := 16409, nameIndex := 15, descriptorIndex := 6, attributes := #[] }, { accessFlags := 26, nameIndex := 44, descriptorIndex := 45, attributes := #[] }, { accessFlags := 18, nameIndex := 37, descriptorIndex := 38, attributes := #[] }, { accessFlags := 18, nameIndex := 41, descriptorIndex := 38, attributes := #[] }, { accessFlags := 4122, nameIndex := 18, descriptorIndex := 19, attributes := #[] }])
  fields := #[{ name := "ONE_TO_ONE", type := (.object "com/example/columngen/columngen/workload/Cardinality"), accessFlags := 16409, slot := 0, constantValue := 0 }, { name := "ONE_TO_MANY", type := (.object "com/example/columngen/columngen/workload/Cardinality"), accessFlags := 16409, slot := 1, constantValue := 0 }, { name := "MANY_TO_ONE", type := (.object "com/example/columngen/columngen/workload/Cardinality"), accessFlags := 16409, slot := 2, constantValue := 0 }, { name := "MANY_TO_MANY", type := (.object "com/example/columngen/columngen/workload/Cardinality"), accessFlags := 16409, slot := 3, constantValue := 0 }, { name := "BY_KEYWORD", type := (.object "java/util/Map"), accessFlags := 26, slot := 4, constantValue := 0 }, { name := "manyOfTarget", type := .boolean, accessFlags := 18, slot := 3, constantValue := 0 }, { name := "manyOfSource", type := .boolean, accessFlags := 18, slot := 4, constantValue := 0 }, { name := "$VALUES", type := (.array (.object "com/example/columngen/columngen/workload/Cardinality")), accessFlags := 4122, slot := 5, constantValue := 0 }]
  methods := #[k6m0]
  instanceTypes := #[(.object "java/lang/String"), .int, .int, .boolean, .boolean]
  staticTypes := #[(.object "com/example/columngen/columngen/workload/Cardinality"), (.object "com/example/columngen/columngen/workload/Cardinality"), (.object "com/example/columngen/columngen/workload/Cardinality"), (.object "com/example/columngen/columngen/workload/Cardinality"), (.object "java/util/Map"), (.array (.object "com/example/columngen/columngen/workload/Cardinality"))]
  resolved := Array.replicate 159 none
  statics := some 0 }

def pool7 : Array CpInfo := pool [(1, u "java/lang/Cloneable"), (0, .class_ 1), (0, u "java/lang/Object"), (0, .class_ 3)] 3

/-- java/lang/Cloneable -/
def k7 : Class := { plain "java/lang/Cloneable" (some 0) with
  accessFlags := 1537
  interfaces := #[]
  cf := some (fileOf pool7 2 #[] #[] 1537 4 #[] #[])
  fields := #[]
  methods := #[]
  instanceTypes := #[]
  staticTypes := #[]
  resolved := Array.replicate 8 none
  statics := none }

/-- the primitive byte -/
def k8 : Class := { plain "byte" none with kind := .primitive 'B', accessFlags := 0x411 }
/-- [B -/
def k9 : Class := { plain "[B" (some 0) with kind := .array 8 .byte, interfaces := #[7, 4], accessFlags := 1041 }

/-- the primitive int -/
def k10 : Class := { plain "int" none with kind := .primitive 'I', accessFlags := 0x411 }
/-- [I -/
def k11 : Class := { plain "[I" (some 0) with kind := .array 10 .int, interfaces := #[7, 4], accessFlags := 1041 }

def heap : Heap := #[{ cls := 6, slots := #[.ref 1, .ref 3, .ref 2, .ref 4, .null, .null], vm := .statics 6 },
  { cls := 6, slots := #[.null, .int 0, .int 0, .int 0, .int 0], vm := .none },
  { cls := 6, slots := #[.null, .int 0, .int 0, .int 0, .int 1], vm := .none },
  { cls := 6, slots := #[.null, .int 0, .int 0, .int 1, .int 0], vm := .none },
  { cls := 6, slots := #[.null, .int 0, .int 0, .int 1, .int 1], vm := .none }]
def classes : Array Class := #[k0, k1, k2, k3, k4, k5, k6, k7, k8, k9, k10, k11]
def interned : List (Array UInt16 × Addr) := []
def slotsUsed : Nat := 26
def theMethod : MethodId := ⟨1, 2⟩
def args0 : Array Value := #[.int 5, .int 1]
def aboutOver (below : List Frame) : State where
  vm := { classes := classes, interned := interned.toArray }
  heap := heap
  slotsUsed := slotsUsed
  threads := #[{ frames := .invoking theMethod args0 :: below }]
def below0 : List Frame := [.native { method := ⟨0, 0⟩, args := #[] }]
def about1 : State := aboutOver below0
def p0 : Program := .bare "" "" ""
def e0 : Env := launch0.env 0 0 0
theorem w_frames : about1.frames = Frame.invoking theMethod args0 :: below0 := rfl
set_option maxRecDepth 65536 in
theorem w_args : argsFit about1.vm theMethod args0 = true := by decide +kernel
set_option maxRecDepth 65536 in
theorem w_heap : heapFits about1 = true := by decide +kernel
set_option maxRecDepth 65536 in
theorem w_runnable : about1.curStatus? = some .runnable := by decide +kernel
set_option maxRecDepth 65536 in
theorem w_alone : about1.alone = true := by decide +kernel
set_option maxRecDepth 65536 in
theorem w_named : about1.methodNamed? x = some theMethod := by decide +kernel
set_option maxRecDepth 65536 in
theorem w_hears : about1.hears theMethod below0 = true := by decide +kernel
set_option maxRecDepth 65536 in
theorem w_ripe : about1.ripe theMethod args0 below0 = true := by decide +kernel
theorem w_running : about1.status = .running := rfl
set_option maxRecDepth 65536 in
theorem w_room : about1.hasRoom e0.platform room_1 = true :=
  launch0.hasRoom_least _ room_1 (by decide +kernel) (by decide +kernel) (by decide +kernel) (by decide +kernel) (by decide +kernel) (by decide +kernel)
theorem allAtoms_all (ts : List Jvm.Cond) (a : Array Jvm.Value) (st : Jvm.State) : (allAtoms ts).before a st = ts.all (fun c => c.before a st) := by
  induction ts with
  | nil => rfl
  | cons c t ih =>
    show (Jvm.Cond.and c (allAtoms t)).before a st = _
    rw [Jvm.Cond.before_and, ih, List.all_cons]
def words1 : List Jvm.Cond := Jvm.Cond.code x code maxLocals ret :: tables_1
/-- a 'code' word, met by the world's own term for the bytes: nothing is compared byte by byte -/
theorem code_word {y : MethodName} {bytes : ByteArray} {mx : Nat} {rt : Option FieldType} {a : Array Value} {s : State} {m : MethodId} {meth : Method} {c : Code} (h1 : s.methodNamed? y = some m) (h2 : s.vm.method? m = some meth) (h3 : meth.code = some c) (h4 : c.code = bytes)
    (h5 : (c.maxLocals == mx && c.exceptionTable.isEmpty && decide (c.maxStack ≤ mostOperands) && decide (meth.sig.returnType = rt) && !meth.locks && decide (parseMethodDescriptor y.desc = some meth.sig)) = true) : (Jvm.Cond.code y bytes mx rt).before a s = true := by
  simp only [Bool.and_eq_true, beq_iff_eq, Bool.not_eq_true', decide_eq_true_eq] at h5
  obtain ⟨⟨⟨⟨⟨g1, g2⟩, g3⟩, g4⟩, g5⟩, g6⟩ := h5
  simp [Cond.before, Cond.holds, Cond.value, h1, h2, h3, h4, g1, g2, g3, g4, g5, g6]
def isCode : Jvm.Cond → Bool
  | .code _ _ _ _ => true
  | _ => false
theorem all_split {L : List Jvm.Cond} {P : Jvm.Cond → Bool} (h1 : L.all (fun c => isCode c || P c) = true) (h2 : ∀ c ∈ L.filter isCode, P c = true) : L.all P = true := by
  refine List.all_eq_true.mpr fun c hc => ?_
  have h := List.all_eq_true.mp h1 c hc
  rcases Bool.eq_false_or_eq_true (isCode c) with hi | hi
  · exact h2 c (List.mem_filter.mpr ⟨hc, hi⟩)
  · simpa [hi] using h
set_option maxRecDepth 65536 in
theorem w_c0 : (Jvm.Cond.code x code maxLocals ret).before args0 about1 = true := code_word (m := ⟨1, 2⟩) (meth := k1m2) (c := k1c2) (by decide +kernel) rfl rfl rfl (by decide +kernel)
set_option maxRecDepth 65536 in
theorem w_c1 : (Jvm.Cond.code ({ cls := "com/example/columngen/columngen/workload/CardinalityToManyPinLaw", name := "pick", desc := "(I)Lcom/example/columngen/columngen/workload/Cardinality;" } : Jvm.MethodName) method_2_code (1 : Nat) (Option.some (Jvm.ClassFile.FieldType.object "com/example/columngen/columngen/workload/Cardinality"))).before args0 about1 = true := code_word (m := ⟨1, 1⟩) (meth := k1m1) (c := k1c1) (by decide +kernel) rfl rfl rfl (by decide +kernel)
set_option maxRecDepth 65536 in
theorem w_c2 : (Jvm.Cond.code ({ cls := "com/example/columngen/columngen/workload/Cardinality", name := "toMany", desc := "(Z)Z" } : Jvm.MethodName) prog_70_method_6_code (2 : Nat) (Option.some Jvm.ClassFile.FieldType.boolean)).before args0 about1 = true := code_word (m := ⟨6, 0⟩) (meth := k6m0) (c := k6c0) (by decide +kernel) rfl rfl rfl (by decide +kernel)
def codes1 : List Jvm.Cond := [Jvm.Cond.code x code maxLocals ret, Jvm.Cond.code ({ cls := "com/example/columngen/columngen/workload/CardinalityToManyPinLaw", name := "pick", desc := "(I)Lcom/example/columngen/columngen/workload/Cardinality;" } : Jvm.MethodName) method_2_code (1 : Nat) (Option.some (Jvm.ClassFile.FieldType.object "com/example/columngen/columngen/workload/Cardinality")), Jvm.Cond.code ({ cls := "com/example/columngen/columngen/workload/Cardinality", name := "toMany", desc := "(Z)Z" } : Jvm.MethodName) prog_70_method_6_code (2 : Nat) (Option.some Jvm.ClassFile.FieldType.boolean)]
set_option maxRecDepth 65536 in
theorem codes_eq : words1.filter isCode = codes1 := rfl
theorem w_codes : ∀ c ∈ words1.filter isCode, c.before args0 about1 = true := by
  rw [codes_eq]
  intro c hc
  simp only [codes1, List.mem_cons, List.not_mem_nil, or_false] at hc
  rcases hc with rfl | rfl | rfl
  · exact w_c0
  · exact w_c1
  · exact w_c2
set_option maxRecDepth 65536 in
theorem w_t1 : words1.all (fun c => isCode c || c.before args0 about1) = true := by decide +kernel
theorem w_tables : (allAtoms (Jvm.Cond.code x code maxLocals ret :: tables_1)).before args0 about1 = true := by
  rw [allAtoms_all]
  show words1.all (fun c => c.before args0 about1) = true
  refine all_split ?_ w_codes
  rw [w_t1]
set_option maxRecDepth 65536 in
theorem w_case : (Jvm.Cond.and given_1 narrow_1).before args0 about1 = true := by decide +kernel
theorem w_applies : (headSpec (Jvm.Cond.code x code maxLocals ret :: tables_1) room_1).applies x e0.platform about1 = true :=
  (Spec.applies_iff w_frames).mpr ⟨w_running, w_runnable, w_alone, w_named, w_hears, w_ripe, w_room, w_tables⟩
theorem atStart : AtStart classFile x code maxLocals ret World_1 tables_1 room_1 Calls_1 rest_1 Pre_1 launch0 p0 e0 about1 theMethod args0 below0 :=
  ⟨lists_1, trivial, launch0.admits_env _ _ _, launch0.least_env, fairChoices_fair.cas, fairChoices_fair.clock, w_frames, w_args, w_heap, w_applies, trivial, trivial, w_case⟩
end start1
theorem witness_1 : WitnessClaimed_1 := ⟨start1.p0, start1.e0, start1.about1, start1.theMethod, start1.args0, start1.below0, start1.atStart⟩
end Jvm.Pilot.@@N@@
