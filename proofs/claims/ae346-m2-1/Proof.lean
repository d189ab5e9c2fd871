import JvmDerived
import JvmDerived.Pilot.@@N@@Statement
import JvmDerived.Pilot.@@N@@Code
set_option linter.unusedVariables false
set_option linter.unusedSimpArgs false
namespace Jvm.RoadKit
open Sem ClassFile Op Lib Jvm.Stand Jvm.Free Jvm.LawKit
section New
variable {p : Program} {l : Launch} {e : Env} {R : Room} {s : State} {m : MethodId} {args : Array Value} {below : List Frame} {meth : Method} {c : Code} {T : State} {locs : List Loc} {cells slots : Nat}
theorem retI (X : Stand p l e R s m args below meth c T locs cells slots) (hx : p.tables.exec = Jvm.exec) {pc : Nat} {Ls : Array Slot} {z : Int32} {rest : List Value} (hret : meth.sig.returnType = some .int) (hd : decode c.code pc = .ok (.ireturn, 1)) {fs : List Frame}
    (hl : ∀ (f : JFrame) (acts : List Action), f.method = m → f.locked = none → f.entered = [] → (doReturn e (T.setTop f) acts (some (.int z))).1 = T.setFrames fs) : Steps p.tables e below (T.setTop (mkF m pc Ls (.int z :: rest))) (T.setFrames fs) := by
  have hm' : T.vm.method? m = some meth := X.method'
  have hn : narrow .int (.int z) = .int z := rfl
  show Steps p.tables e below (T.setTop { method := m, pc := pc, locals := Ls, stack := _ :: rest, locked := none }) _
  jvm_step X.here [X.here.top, hx, hd, hm', hret, hn]
  first | (intro acts; rw [hl _ acts rfl rfl rfl]) | rw [hl _ _ rfl rfl rfl]
  exact Steps.refl _
abbrev vI (x : Int32) : Slot := .val (.int x)
abbrev vJ (x : Int64) : Slot := .val (.long x)
abbrev vR (x : Addr) : Slot := .val (.ref x)
abbrev iI (x : Int32) : Value := .int x
abbrev iJ (x : Int64) : Value := .long x
abbrev iR (x : Addr) : Value := .ref x
/-- from one frame to another over the same heap -/
def own_Mid (X : Stand p l e R s m args below meth c T locs cells slots) (h : Heap) (F F' : JFrame) : Prop :=
  ∃ T', Stand p l e R s m args below meth c T' locs cells slots ∧ T'.heap = h ∧ ∀ t, Steps p.tables e below (T'.setTop F') t → Steps p.tables e below (T.setTop F) t
end New
end Jvm.RoadKit
namespace Jvm.Pilot.@@N@@
open Jvm Jvm.ClassFile Sem Op Lib Jvm.Free Jvm.Stand Jvm.LawKit Jvm.RoadKit Bundle Jvm.Pilot.@@N@@.Jvm.D
theorem pd_0 : parseMethodDescriptor "()I" = some ⟨[], some .int⟩ := by decide +kernel
theorem pd_1 : parseMethodDescriptor "(I)Lcom/example/columngen/columngen/workload/Predicate$Operator;" = some ⟨[.int], some (.object "com/example/columngen/columngen/workload/Predicate$Operator")⟩ := by decide +kernel
theorem pd_2 : parseMethodDescriptor "()Z" = some ⟨[], some .boolean⟩ := by decide +kernel
theorem pd_3 : parseMethodDescriptor "(I)Z" = some ⟨[.int], some .boolean⟩ := by decide +kernel

theorem own_fldEq {s : State} {args : Array Value} {t : Term} {a : Addr} {C n d : String} {k : Int32} (ht : t.eval args s none [] s = some (.ref a)) (h : (Jvm.Cond.eq (Term.field t C n d) (Term.int k)).value args s none s [] = some true) : Fld s s.heap a C n d (.int k) := by
  obtain ⟨x, y, e1, e2, -, -⟩ := cmp_v (Or.inl h)
  have e3 : (Term.int k).eval args s none [] s = some (.int k) := Term.int_eval k
  obtain rfl : y = .int k := Option.some.inj (e2.symm.trans e3)
  have hx : x = .int k := by
    simp only [Cond.value, e1, e2] at h
    cases x <;> simp at h
    rw [h]
  subst hx
  exact Fld.start ((fld_at ht).symm.trans e1)

theorem own_rem (x y : Int32) (d : Int) (hy : y.toInt = d) (hd : 0 < d) : 0 ≤ ((x &&& 2147483647) % y).toInt ∧ ((x &&& 2147483647) % y).toInt < d := by
  have h0 : 0 ≤ (x &&& 2147483647).toInt := (c_and x 2147483647 (by decide)).1
  rw [(c_irem (x &&& 2147483647) y d hy).1 h0]
  exact ⟨Int.emod_nonneg _ (by omega), Int.emod_lt_of_pos _ hd⟩

theorem own_small5 (v : Int32) (h0 : 0 ≤ v.toInt) (h1 : v.toInt < 5) : v = 0 ∨ v = 1 ∨ v = 2 ∨ v = 3 ∨ v = 4 := by
  have h : v.toInt = 0 ∨ v.toInt = 1 ∨ v.toInt = 2 ∨ v.toInt = 3 ∨ v.toInt = 4 := by omega
  rcases h with h | h | h | h | h
  · exact Or.inl (Int32.toInt_inj.mp (h.trans (by decide)))
  · exact Or.inr (Or.inl (Int32.toInt_inj.mp (h.trans (by decide))))
  · exact Or.inr (Or.inr (Or.inl (Int32.toInt_inj.mp (h.trans (by decide)))))
  · exact Or.inr (Or.inr (Or.inr (Or.inl (Int32.toInt_inj.mp (h.trans (by decide))))))
  · exact Or.inr (Or.inr (Or.inr (Or.inr ((Int32.toInt_inj.mp (h.trans (by decide)))))))

theorem d1_0 : decode method_2_code 0 = .ok (.iload_n 0, 1) := by decide +kernel
theorem d1_1 : decode method_2_code 1 = .ok (.ifCond .ne 7, 3) := by decide +kernel
theorem d1_4 : decode method_2_code 4 = .ok (.getstatic 7, 3) := by decide +kernel
theorem d1_7 : decode method_2_code 7 = .ok (.areturn, 1) := by decide +kernel
theorem pn_0 : plainName "com/example/columngen/columngen/workload/OperatorIsLowerBoundPinLaw" = true := by first | (simp [plainName, overriddenIn]; done) | decide +kernel
theorem ef_1_0 (m : MethodId)  : entryFrame m #[(.int (0 : Int32))] 1 = mkF m 0 #[.val (.int (0 : Int32))] [] := by first | (simp [entryFrame, mkF, argsToLocals, Value.category]; done) | rfl
def Q1_0 (Z : State) (s_EQUAL : Addr) (s_GREATER : Addr) (s_GREATER_OR_EQUAL : Addr) (s_LESS : Addr) (s_LESS_OR_EQUAL : Addr) (h0 : Heap) (v : Option Value) (h : Heap) (L : List Loc) : Prop := v = some (.ref s_EQUAL) ∧ L = [] ∧ h = h0
set_option maxRecDepth 65536 in
set_option maxHeartbeats 40000000 in
theorem rm1_0 (l : Launch) (Z : State) (a0 : Array Value) (hw : ∀ d ∈ tables_1, d.before a0 Z = true) (ws : List Jvm.Cond) (s_EQUAL : Addr) (s_GREATER : Addr) (s_GREATER_OR_EQUAL : Addr) (s_LESS : Addr) (s_LESS_OR_EQUAL : Addr) (h0 : Heap) (S_EQUAL : Sta Z h0 "com/example/columngen/columngen/workload/Predicate$Operator" "EQUAL" "Lcom/example/columngen/columngen/workload/Predicate$Operator;" (.ref s_EQUAL)) (E_EQUAL : Exa Z h0 s_EQUAL "com/example/columngen/columngen/workload/Predicate$Operator") (S_GREATER : Sta Z h0 "com/example/columngen/columngen/workload/Predicate$Operator" "GREATER" "Lcom/example/columngen/columngen/workload/Predicate$Operator;" (.ref s_GREATER)) (E_GREATER : Exa Z h0 s_GREATER "com/example/columngen/columngen/workload/Predicate$Operator") (F_ordinal_EQUAL : Fld Z h0 s_EQUAL "java/lang/Enum" "ordinal" "I" (.int (0 : Int32))) (F_ordinal_GREATER : Fld Z h0 s_GREATER "java/lang/Enum" "ordinal" "I" (.int (3 : Int32))) (S_GREATER_OR_EQUAL : Sta Z h0 "com/example/columngen/columngen/workload/Predicate$Operator" "GREATER_OR_EQUAL" "Lcom/example/columngen/columngen/workload/Predicate$Operator;" (.ref s_GREATER_OR_EQUAL)) (E_GREATER_OR_EQUAL : Exa Z h0 s_GREATER_OR_EQUAL "com/example/columngen/columngen/workload/Predicate$Operator") (F_ordinal_GREATER_OR_EQUAL : Fld Z h0 s_GREATER_OR_EQUAL "java/lang/Enum" "ordinal" "I" (.int (4 : Int32))) (S_LESS : Sta Z h0 "com/example/columngen/columngen/workload/Predicate$Operator" "LESS" "Lcom/example/columngen/columngen/workload/Predicate$Operator;" (.ref s_LESS)) (E_LESS : Exa Z h0 s_LESS "com/example/columngen/columngen/workload/Predicate$Operator") (F_ordinal_LESS : Fld Z h0 s_LESS "java/lang/Enum" "ordinal" "I" (.int (1 : Int32))) (S_LESS_OR_EQUAL : Sta Z h0 "com/example/columngen/columngen/workload/Predicate$Operator" "LESS_OR_EQUAL" "Lcom/example/columngen/columngen/workload/Predicate$Operator;" (.ref s_LESS_OR_EQUAL)) (E_LESS_OR_EQUAL : Exa Z h0 s_LESS_OR_EQUAL "com/example/columngen/columngen/workload/Predicate$Operator") (F_ordinal_LESS_OR_EQUAL : Fld Z h0 s_LESS_OR_EQUAL "java/lang/Enum" "ordinal" "I" (.int (2 : Int32))) :
    MetFree l (⟨"com/example/columngen/columngen/workload/OperatorIsLowerBoundPinLaw", "pick", "(I)Lcom/example/columngen/columngen/workload/Predicate$Operator;"⟩ : MethodName) (head1 (Jvm.Cond.code (⟨"com/example/columngen/columngen/workload/OperatorIsLowerBoundPinLaw", "pick", "(I)Lcom/example/columngen/columngen/workload/Predicate$Operator;"⟩ : MethodName) method_2_code 1 (some (.object "com/example/columngen/columngen/workload/Predicate$Operator")) :: ws) ({ frames := 0, cells := 0, slots := 0, locals := 0 } : Room)) (fun a U => a = #[(.int (0 : Int32))] ∧ Z.Warmed39 U.vm ∧ U.heap = h0) (fun _ _ _ _ _ => True) (fun _ U o U' => ∃ v L, o = .returned v ∧ Q1_0 Z s_EQUAL s_GREATER s_GREATER_OR_EQUAL s_LESS s_LESS_OR_EQUAL h0 v U'.heap L ∧ FrameEnd U o U' L ({ frames := 0, cells := 0, slots := 0, locals := 0 } : Room).cells ({ frames := 0, cells := 0, slots := 0, locals := 0 } : Room).slots) := by
  refine MetFree.of_bodySF (plainFor_of_name pn_0) hisR ?_
  intro p e s m args below meth c s₁ Bd hml0 hP hK
  obtain ⟨rfl, hZ, hh⟩ := hP
  have hx := Bd.exec
  have hby := Bd.bytes
  have hml : c.maxLocals = 1 := hml0
  have hown : s.vm.findClass "com/example/columngen/columngen/workload/OperatorIsLowerBoundPinLaw" = some m.cls := findClass_of_methodNamed Bd.named
  have hnm := (name_of_methodNamed Bd.named Bd.method).1
  have X0 : Stand p l e ({ frames := 0, cells := 0, slots := 0, locals := 0 } : Room) s m #[(.int (0 : Int32))] below meth c s₁ [] 0 0 := Stand.of_body Bd
  have e0 : s₁.heap = h0 := by rw [← hh, Bd.state]; rfl
  have pre0 : ∀ t, Steps p.tables e below (s₁.setTop (mkF m 0 #[.val (.int (0 : Int32))] [])) t → Steps p.tables e below (s₁.setTop (entryFrame m #[(.int (0 : Int32))] 1)) t := fun t k => castTop (ef_1_0 m ) k
  obtain ⟨T1, X1, e1, st1⟩ := getS2 X0 hx hZ hown (host := "") (Or.inl (hw _ (List.mem_of_getElem? (i := 5) rfl))) Via.refl e0 S_EQUAL (g := (mkF m 4 #[vI 0] [])) rfl (hb hby d1_4)
  obtain ⟨fs, hr, hrun, hended, hW, hsame⟩ := X1.leave (v := some (.ref s_EQUAL)) (fun h => by rw [Bd.returns] at h; cases h)
  refine ⟨_, _, pre0 _ ?_, hrun, hended, _, _, rfl, ?_, ⟨_, rfl⟩, hW, hsame.mono (by decide) (by decide)⟩
  · show Steps _ _ _ (s₁.setTop (mkF m 0 #[vI 0] [])) _
    refine XS.iloadN X0.here hx rfl (hb hby d1_0) rfl ?_
    show Steps _ _ _ (s₁.setTop (mkF m 1 #[vI 0] [iI 0])) _
    refine XS.ifNo X0.here hx rfl (hb hby d1_1) rfl ((if0 _ _).trans (teq (by decide : (0 : Int32) = (0 : Int32))).2) ?_
    show Steps _ _ _ (s₁.setTop (mkF m 4 #[vI 0] [])) _
    refine st1 _ ?_
    show Steps _ _ _ (T1.setTop (mkF m 7 #[vI 0] [iR s_EQUAL])) _
    jvm_step X1.here [X1.here.top, hx, (hb hby d1_7), X1.method', Bd.returns, Value.isRef, FieldType.isReference]
    first | (intro acts; rw [hr _ acts rfl rfl rfl]) | rw [hr _ _ rfl rfl rfl]
    exact Steps.refl _
  · show Q1_0 Z s_EQUAL s_GREATER s_GREATER_OR_EQUAL s_LESS s_LESS_OR_EQUAL h0 _ T1.heap _
    rw [e1]
    exact ⟨rfl, rfl, rfl⟩
theorem d1_8 : decode method_2_code 8 = .ok (.iload_n 0, 1) := by decide +kernel
theorem d1_9 : decode method_2_code 9 = .ok (.iconst 1, 1) := by decide +kernel
theorem d1_10 : decode method_2_code 10 = .ok (.if_icmp .ne 7, 3) := by decide +kernel
theorem d1_13 : decode method_2_code 13 = .ok (.getstatic 13, 3) := by decide +kernel
theorem d1_16 : decode method_2_code 16 = .ok (.areturn, 1) := by decide +kernel
theorem ef_1_1 (m : MethodId)  : entryFrame m #[(.int (1 : Int32))] 1 = mkF m 0 #[.val (.int (1 : Int32))] [] := by first | (simp [entryFrame, mkF, argsToLocals, Value.category]; done) | rfl
def Q1_1 (Z : State) (s_EQUAL : Addr) (s_GREATER : Addr) (s_GREATER_OR_EQUAL : Addr) (s_LESS : Addr) (s_LESS_OR_EQUAL : Addr) (h0 : Heap) (v : Option Value) (h : Heap) (L : List Loc) : Prop := v = some (.ref s_LESS) ∧ L = [] ∧ h = h0
set_option maxRecDepth 65536 in
set_option maxHeartbeats 40000000 in
theorem rm1_1 (l : Launch) (Z : State) (a0 : Array Value) (hw : ∀ d ∈ tables_1, d.before a0 Z = true) (ws : List Jvm.Cond) (s_EQUAL : Addr) (s_GREATER : Addr) (s_GREATER_OR_EQUAL : Addr) (s_LESS : Addr) (s_LESS_OR_EQUAL : Addr) (h0 : Heap) (S_EQUAL : Sta Z h0 "com/example/columngen/columngen/workload/Predicate$Operator" "EQUAL" "Lcom/example/columngen/columngen/workload/Predicate$Operator;" (.ref s_EQUAL)) (E_EQUAL : Exa Z h0 s_EQUAL "com/example/columngen/columngen/workload/Predicate$Operator") (S_GREATER : Sta Z h0 "com/example/columngen/columngen/workload/Predicate$Operator" "GREATER" "Lcom/example/columngen/columngen/workload/Predicate$Operator;" (.ref s_GREATER)) (E_GREATER : Exa Z h0 s_GREATER "com/example/columngen/columngen/workload/Predicate$Operator") (F_ordinal_EQUAL : Fld Z h0 s_EQUAL "java/lang/Enum" "ordinal" "I" (.int (0 : Int32))) (F_ordinal_GREATER : Fld Z h0 s_GREATER "java/lang/Enum" "ordinal" "I" (.int (3 : Int32))) (S_GREATER_OR_EQUAL : Sta Z h0 "com/example/columngen/columngen/workload/Predicate$Operator" "GREATER_OR_EQUAL" "Lcom/example/columngen/columngen/workload/Predicate$Operator;" (.ref s_GREATER_OR_EQUAL)) (E_GREATER_OR_EQUAL : Exa Z h0 s_GREATER_OR_EQUAL "com/example/columngen/columngen/workload/Predicate$Operator") (F_ordinal_GREATER_OR_EQUAL : Fld Z h0 s_GREATER_OR_EQUAL "java/lang/Enum" "ordinal" "I" (.int (4 : Int32))) (S_LESS : Sta Z h0 "com/example/columngen/columngen/workload/Predicate$Operator" "LESS" "Lcom/example/columngen/columngen/workload/Predicate$Operator;" (.ref s_LESS)) (E_LESS : Exa Z h0 s_LESS "com/example/columngen/columngen/workload/Predicate$Operator") (F_ordinal_LESS : Fld Z h0 s_LESS "java/lang/Enum" "ordinal" "I" (.int (1 : Int32))) (S_LESS_OR_EQUAL : Sta Z h0 "com/example/columngen/columngen/workload/Predicate$Operator" "LESS_OR_EQUAL" "Lcom/example/columngen/columngen/workload/Predicate$Operator;" (.ref s_LESS_OR_EQUAL)) (E_LESS_OR_EQUAL : Exa Z h0 s_LESS_OR_EQUAL "com/example/columngen/columngen/workload/Predicate$Operator") (F_ordinal_LESS_OR_EQUAL : Fld Z h0 s_LESS_OR_EQUAL "java/lang/Enum" "ordinal" "I" (.int (2 : Int32))) :
    MetFree l (⟨"com/example/columngen/columngen/workload/OperatorIsLowerBoundPinLaw", "pick", "(I)Lcom/example/columngen/columngen/workload/Predicate$Operator;"⟩ : MethodName) (head1 (Jvm.Cond.code (⟨"com/example/columngen/columngen/workload/OperatorIsLowerBoundPinLaw", "pick", "(I)Lcom/example/columngen/columngen/workload/Predicate$Operator;"⟩ : MethodName) method_2_code 1 (some (.object "com/example/columngen/columngen/workload/Predicate$Operator")) :: ws) ({ frames := 0, cells := 0, slots := 0, locals := 0 } : Room)) (fun a U => a = #[(.int (1 : Int32))] ∧ Z.Warmed39 U.vm ∧ U.heap = h0) (fun _ _ _ _ _ => True) (fun _ U o U' => ∃ v L, o = .returned v ∧ Q1_1 Z s_EQUAL s_GREATER s_GREATER_OR_EQUAL s_LESS s_LESS_OR_EQUAL h0 v U'.heap L ∧ FrameEnd U o U' L ({ frames := 0, cells := 0, slots := 0, locals := 0 } : Room).cells ({ frames := 0, cells := 0, slots := 0, locals := 0 } : Room).slots) := by
  refine MetFree.of_bodySF (plainFor_of_name pn_0) hisR ?_
  intro p e s m args below meth c s₁ Bd hml0 hP hK
  obtain ⟨rfl, hZ, hh⟩ := hP
  have hx := Bd.exec
  have hby := Bd.bytes
  have hml : c.maxLocals = 1 := hml0
  have hown : s.vm.findClass "com/example/columngen/columngen/workload/OperatorIsLowerBoundPinLaw" = some m.cls := findClass_of_methodNamed Bd.named
  have hnm := (name_of_methodNamed Bd.named Bd.method).1
  have X0 : Stand p l e ({ frames := 0, cells := 0, slots := 0, locals := 0 } : Room) s m #[(.int (1 : Int32))] below meth c s₁ [] 0 0 := Stand.of_body Bd
  have e0 : s₁.heap = h0 := by rw [← hh, Bd.state]; rfl
  have pre0 : ∀ t, Steps p.tables e below (s₁.setTop (mkF m 0 #[.val (.int (1 : Int32))] [])) t → Steps p.tables e below (s₁.setTop (entryFrame m #[(.int (1 : Int32))] 1)) t := fun t k => castTop (ef_1_1 m ) k
  obtain ⟨T1, X1, e1, st1⟩ := getS2 X0 hx hZ hown (host := "") (Or.inl (hw _ (List.mem_of_getElem? (i := 33) rfl))) Via.refl e0 S_LESS (g := (mkF m 13 #[vI 1] [])) rfl (hb hby d1_13)
  obtain ⟨fs, hr, hrun, hended, hW, hsame⟩ := X1.leave (v := some (.ref s_LESS)) (fun h => by rw [Bd.returns] at h; cases h)
  refine ⟨_, _, pre0 _ ?_, hrun, hended, _, _, rfl, ?_, ⟨_, rfl⟩, hW, hsame.mono (by decide) (by decide)⟩
  · show Steps _ _ _ (s₁.setTop (mkF m 0 #[vI 1] [])) _
    refine XS.iloadN X0.here hx rfl (hb hby d1_0) rfl ?_
    show Steps _ _ _ (s₁.setTop (mkF m 1 #[vI 1] [iI 1])) _
    refine XS.ifYes X0.here hx rfl (pc0 := 1) (pc' := 8) rfl (hb hby d1_1) rfl ((if0 _ _).trans (feq (by decide : ¬ ((1 : Int32) = (0 : Int32)))).2) (by decide) (by decide) ?_
    show Steps _ _ _ (s₁.setTop (mkF m 8 #[vI 1] [])) _
    refine XS.iloadN X0.here hx rfl (hb hby d1_8) rfl ?_
    show Steps _ _ _ (s₁.setTop (mkF m 9 #[vI 1] [iI 1])) _
    refine XS.iconst X0.here hx rfl (hb hby d1_9) ?_
    show Steps _ _ _ (s₁.setTop (mkF m 10 #[vI 1] [iI 1, iI 1])) _
    refine XS.icmpNo X0.here hx rfl (hb hby d1_10) rfl (teq (by decide : (1 : Int32) = (1 : Int32))).2 ?_
    show Steps _ _ _ (s₁.setTop (mkF m 13 #[vI 1] [])) _
    refine st1 _ ?_
    show Steps _ _ _ (T1.setTop (mkF m 16 #[vI 1] [iR s_LESS])) _
    jvm_step X1.here [X1.here.top, hx, (hb hby d1_16), X1.method', Bd.returns, Value.isRef, FieldType.isReference]
    first | (intro acts; rw [hr _ acts rfl rfl rfl]) | rw [hr _ _ rfl rfl rfl]
    exact Steps.refl _
  · show Q1_1 Z s_EQUAL s_GREATER s_GREATER_OR_EQUAL s_LESS s_LESS_OR_EQUAL h0 _ T1.heap _
    rw [e1]
    exact ⟨rfl, rfl, rfl⟩
theorem d1_17 : decode method_2_code 17 = .ok (.iload_n 0, 1) := by decide +kernel
theorem d1_18 : decode method_2_code 18 = .ok (.iconst 2, 1) := by decide +kernel
theorem d1_19 : decode method_2_code 19 = .ok (.if_icmp .ne 7, 3) := by decide +kernel
theorem d1_22 : decode method_2_code 22 = .ok (.getstatic 16, 3) := by decide +kernel
theorem d1_25 : decode method_2_code 25 = .ok (.areturn, 1) := by decide +kernel
theorem ef_1_2 (m : MethodId)  : entryFrame m #[(.int (2 : Int32))] 1 = mkF m 0 #[.val (.int (2 : Int32))] [] := by first | (simp [entryFrame, mkF, argsToLocals, Value.category]; done) | rfl
def Q1_2 (Z : State) (s_EQUAL : Addr) (s_GREATER : Addr) (s_GREATER_OR_EQUAL : Addr) (s_LESS : Addr) (s_LESS_OR_EQUAL : Addr) (h0 : Heap) (v : Option Value) (h : Heap) (L : List Loc) : Prop := v = some (.ref s_LESS_OR_EQUAL) ∧ L = [] ∧ h = h0
set_option maxRecDepth 65536 in
set_option maxHeartbeats 40000000 in
theorem rm1_2 (l : Launch) (Z : State) (a0 : Array Value) (hw : ∀ d ∈ tables_1, d.before a0 Z = true) (ws : List Jvm.Cond) (s_EQUAL : Addr) (s_GREATER : Addr) (s_GREATER_OR_EQUAL : Addr) (s_LESS : Addr) (s_LESS_OR_EQUAL : Addr) (h0 : Heap) (S_EQUAL : Sta Z h0 "com/example/columngen/columngen/workload/Predicate$Operator" "EQUAL" "Lcom/example/columngen/columngen/workload/Predicate$Operator;" (.ref s_EQUAL)) (E_EQUAL : Exa Z h0 s_EQUAL "com/example/columngen/columngen/workload/Predicate$Operator") (S_GREATER : Sta Z h0 "com/example/columngen/columngen/workload/Predicate$Operator" "GREATER" "Lcom/example/columngen/columngen/workload/Predicate$Operator;" (.ref s_GREATER)) (E_GREATER : Exa Z h0 s_GREATER "com/example/columngen/columngen/workload/Predicate$Operator") (F_ordinal_EQUAL : Fld Z h0 s_EQUAL "java/lang/Enum" "ordinal" "I" (.int (0 : Int32))) (F_ordinal_GREATER : Fld Z h0 s_GREATER "java/lang/Enum" "ordinal" "I" (.int (3 : Int32))) (S_GREATER_OR_EQUAL : Sta Z h0 "com/example/columngen/columngen/workload/Predicate$Operator" "GREATER_OR_EQUAL" "Lcom/example/columngen/columngen/workload/Predicate$Operator;" (.ref s_GREATER_OR_EQUAL)) (E_GREATER_OR_EQUAL : Exa Z h0 s_GREATER_OR_EQUAL "com/example/columngen/columngen/workload/Predicate$Operator") (F_ordinal_GREATER_OR_EQUAL : Fld Z h0 s_GREATER_OR_EQUAL "java/lang/Enum" "ordinal" "I" (.int (4 : Int32))) (S_LESS : Sta Z h0 "com/example/columngen/columngen/workload/Predicate$Operator" "LESS" "Lcom/example/columngen/columngen/workload/Predicate$Operator;" (.ref s_LESS)) (E_LESS : Exa Z h0 s_LESS "com/example/columngen/columngen/workload/Predicate$Operator") (F_ordinal_LESS : Fld Z h0 s_LESS "java/lang/Enum" "ordinal" "I" (.int (1 : Int32))) (S_LESS_OR_EQUAL : Sta Z h0 "com/example/columngen/columngen/workload/Predicate$Operator" "LESS_OR_EQUAL" "Lcom/example/columngen/columngen/workload/Predicate$Operator;" (.ref s_LESS_OR_EQUAL)) (E_LESS_OR_EQUAL : Exa Z h0 s_LESS_OR_EQUAL "com/example/columngen/columngen/workload/Predicate$Operator") (F_ordinal_LESS_OR_EQUAL : Fld Z h0 s_LESS_OR_EQUAL "java/lang/Enum" "ordinal" "I" (.int (2 : Int32))) :
    MetFree l (⟨"com/example/columngen/columngen/workload/OperatorIsLowerBoundPinLaw", "pick", "(I)Lcom/example/columngen/columngen/workload/Predicate$Operator;"⟩ : MethodName) (head1 (Jvm.Cond.code (⟨"com/example/columngen/columngen/workload/OperatorIsLowerBoundPinLaw", "pick", "(I)Lcom/example/columngen/columngen/workload/Predicate$Operator;"⟩ : MethodName) method_2_code 1 (some (.object "com/example/columngen/columngen/workload/Predicate$Operator")) :: ws) ({ frames := 0, cells := 0, slots := 0, locals := 0 } : Room)) (fun a U => a = #[(.int (2 : Int32))] ∧ Z.Warmed39 U.vm ∧ U.heap = h0) (fun _ _ _ _ _ => True) (fun _ U o U' => ∃ v L, o = .returned v ∧ Q1_2 Z s_EQUAL s_GREATER s_GREATER_OR_EQUAL s_LESS s_LESS_OR_EQUAL h0 v U'.heap L ∧ FrameEnd U o U' L ({ frames := 0, cells := 0, slots := 0, locals := 0 } : Room).cells ({ frames := 0, cells := 0, slots := 0, locals := 0 } : Room).slots) := by
  refine MetFree.of_bodySF (plainFor_of_name pn_0) hisR ?_
  intro p e s m args below meth c s₁ Bd hml0 hP hK
  obtain ⟨rfl, hZ, hh⟩ := hP
  have hx := Bd.exec
  have hby := Bd.bytes
  have hml : c.maxLocals = 1 := hml0
  have hown : s.vm.findClass "com/example/columngen/columngen/workload/OperatorIsLowerBoundPinLaw" = some m.cls := findClass_of_methodNamed Bd.named
  have hnm := (name_of_methodNamed Bd.named Bd.method).1
  have X0 : Stand p l e ({ frames := 0, cells := 0, slots := 0, locals := 0 } : Room) s m #[(.int (2 : Int32))] below meth c s₁ [] 0 0 := Stand.of_body Bd
  have e0 : s₁.heap = h0 := by rw [← hh, Bd.state]; rfl
  have pre0 : ∀ t, Steps p.tables e below (s₁.setTop (mkF m 0 #[.val (.int (2 : Int32))] [])) t → Steps p.tables e below (s₁.setTop (entryFrame m #[(.int (2 : Int32))] 1)) t := fun t k => castTop (ef_1_2 m ) k
  obtain ⟨T1, X1, e1, st1⟩ := getS2 X0 hx hZ hown (host := "") (Or.inl (hw _ (List.mem_of_getElem? (i := 35) rfl))) Via.refl e0 S_LESS_OR_EQUAL (g := (mkF m 22 #[vI 2] [])) rfl (hb hby d1_22)
  obtain ⟨fs, hr, hrun, hended, hW, hsame⟩ := X1.leave (v := some (.ref s_LESS_OR_EQUAL)) (fun h => by rw [Bd.returns] at h; cases h)
  refine ⟨_, _, pre0 _ ?_, hrun, hended, _, _, rfl, ?_, ⟨_, rfl⟩, hW, hsame.mono (by decide) (by decide)⟩
  · show Steps _ _ _ (s₁.setTop (mkF m 0 #[vI 2] [])) _
    refine XS.iloadN X0.here hx rfl (hb hby d1_0) rfl ?_
    show Steps _ _ _ (s₁.setTop (mkF m 1 #[vI 2] [iI 2])) _
    refine XS.ifYes X0.here hx rfl (pc0 := 1) (pc' := 8) rfl (hb hby d1_1) rfl ((if0 _ _).trans (feq (by decide : ¬ ((2 : Int32) = (0 : Int32)))).2) (by decide) (by decide) ?_
    show Steps _ _ _ (s₁.setTop (mkF m 8 #[vI 2] [])) _
    refine XS.iloadN X0.here hx rfl (hb hby d1_8) rfl ?_
    show Steps _ _ _ (s₁.setTop (mkF m 9 #[vI 2] [iI 2])) _
    refine XS.iconst X0.here hx rfl (hb hby d1_9) ?_
    show Steps _ _ _ (s₁.setTop (mkF m 10 #[vI 2] [iI 1, iI 2])) _
    refine XS.icmpYes X0.here hx rfl (pc0 := 10) (pc' := 17) rfl (hb hby d1_10) rfl (feq (by decide : ¬ ((2 : Int32) = (1 : Int32)))).2 (by decide) (by decide) ?_
    show Steps _ _ _ (s₁.setTop (mkF m 17 #[vI 2] [])) _
    refine XS.iloadN X0.here hx rfl (hb hby d1_17) rfl ?_
    show Steps _ _ _ (s₁.setTop (mkF m 18 #[vI 2] [iI 2])) _
    refine XS.iconst X0.here hx rfl (hb hby d1_18) ?_
    show Steps _ _ _ (s₁.setTop (mkF m 19 #[vI 2] [iI 2, iI 2])) _
    refine XS.icmpNo X0.here hx rfl (hb hby d1_19) rfl (teq (by decide : (2 : Int32) = (2 : Int32))).2 ?_
    show Steps _ _ _ (s₁.setTop (mkF m 22 #[vI 2] [])) _
    refine st1 _ ?_
    show Steps _ _ _ (T1.setTop (mkF m 25 #[vI 2] [iR s_LESS_OR_EQUAL])) _
    jvm_step X1.here [X1.here.top, hx, (hb hby d1_25), X1.method', Bd.returns, Value.isRef, FieldType.isReference]
    first | (intro acts; rw [hr _ acts rfl rfl rfl]) | rw [hr _ _ rfl rfl rfl]
    exact Steps.refl _
  · show Q1_2 Z s_EQUAL s_GREATER s_GREATER_OR_EQUAL s_LESS s_LESS_OR_EQUAL h0 _ T1.heap _
    rw [e1]
    exact ⟨rfl, rfl, rfl⟩
theorem d1_26 : decode method_2_code 26 = .ok (.iload_n 0, 1) := by decide +kernel
theorem d1_27 : decode method_2_code 27 = .ok (.iconst 3, 1) := by decide +kernel
theorem d1_28 : decode method_2_code 28 = .ok (.if_icmp .ne 7, 3) := by decide +kernel
theorem d1_31 : decode method_2_code 31 = .ok (.getstatic 19, 3) := by decide +kernel
theorem d1_34 : decode method_2_code 34 = .ok (.areturn, 1) := by decide +kernel
theorem ef_1_3 (m : MethodId)  : entryFrame m #[(.int (3 : Int32))] 1 = mkF m 0 #[.val (.int (3 : Int32))] [] := by first | (simp [entryFrame, mkF, argsToLocals, Value.category]; done) | rfl
def Q1_3 (Z : State) (s_EQUAL : Addr) (s_GREATER : Addr) (s_GREATER_OR_EQUAL : Addr) (s_LESS : Addr) (s_LESS_OR_EQUAL : Addr) (h0 : Heap) (v : Option Value) (h : Heap) (L : List Loc) : Prop := v = some (.ref s_GREATER) ∧ L = [] ∧ h = h0
set_option maxRecDepth 65536 in
set_option maxHeartbeats 40000000 in
theorem rm1_3 (l : Launch) (Z : State) (a0 : Array Value) (hw : ∀ d ∈ tables_1, d.before a0 Z = true) (ws : List Jvm.Cond) (s_EQUAL : Addr) (s_GREATER : Addr) (s_GREATER_OR_EQUAL : Addr) (s_LESS : Addr) (s_LESS_OR_EQUAL : Addr) (h0 : Heap) (S_EQUAL : Sta Z h0 "com/example/columngen/columngen/workload/Predicate$Operator" "EQUAL" "Lcom/example/columngen/columngen/workload/Predicate$Operator;" (.ref s_EQUAL)) (E_EQUAL : Exa Z h0 s_EQUAL "com/example/columngen/columngen/workload/Predicate$Operator") (S_GREATER : Sta Z h0 "com/example/columngen/columngen/workload/Predicate$Operator" "GREATER" "Lcom/example/columngen/columngen/workload/Predicate$Operator;" (.ref s_GREATER)) (E_GREATER : Exa Z h0 s_GREATER "com/example/columngen/columngen/workload/Predicate$Operator") (F_ordinal_EQUAL : Fld Z h0 s_EQUAL "java/lang/Enum" "ordinal" "I" (.int (0 : Int32))) (F_ordinal_GREATER : Fld Z h0 s_GREATER "java/lang/Enum" "ordinal" "I" (.int (3 : Int32))) (S_GREATER_OR_EQUAL : Sta Z h0 "com/example/columngen/columngen/workload/Predicate$Operator" "GREATER_OR_EQUAL" "Lcom/example/columngen/columngen/workload/Predicate$Operator;" (.ref s_GREATER_OR_EQUAL)) (E_GREATER_OR_EQUAL : Exa Z h0 s_GREATER_OR_EQUAL "com/example/columngen/columngen/workload/Predicate$Operator") (F_ordinal_GREATER_OR_EQUAL : Fld Z h0 s_GREATER_OR_EQUAL "java/lang/Enum" "ordinal" "I" (.int (4 : Int32))) (S_LESS : Sta Z h0 "com/example/columngen/columngen/workload/Predicate$Operator" "LESS" "Lcom/example/columngen/columngen/workload/Predicate$Operator;" (.ref s_LESS)) (E_LESS : Exa Z h0 s_LESS "com/example/columngen/columngen/workload/Predicate$Operator") (F_ordinal_LESS : Fld Z h0 s_LESS "java/lang/Enum" "ordinal" "I" (.int (1 : Int32))) (S_LESS_OR_EQUAL : Sta Z h0 "com/example/columngen/columngen/workload/Predicate$Operator" "LESS_OR_EQUAL" "Lcom/example/columngen/columngen/workload/Predicate$Operator;" (.ref s_LESS_OR_EQUAL)) (E_LESS_OR_EQUAL : Exa Z h0 s_LESS_OR_EQUAL "com/example/columngen/columngen/workload/Predicate$Operator") (F_ordinal_LESS_OR_EQUAL : Fld Z h0 s_LESS_OR_EQUAL "java/lang/Enum" "ordinal" "I" (.int (2 : Int32))) :
    MetFree l (⟨"com/example/columngen/columngen/workload/OperatorIsLowerBoundPinLaw", "pick", "(I)Lcom/example/columngen/columngen/workload/Predicate$Operator;"⟩ : MethodName) (head1 (Jvm.Cond.code (⟨"com/example/columngen/columngen/workload/OperatorIsLowerBoundPinLaw", "pick", "(I)Lcom/example/columngen/columngen/workload/Predicate$Operator;"⟩ : MethodName) method_2_code 1 (some (.object "com/example/columngen/columngen/workload/Predicate$Operator")) :: ws) ({ frames := 0, cells := 0, slots := 0, locals := 0 } : Room)) (fun a U => a = #[(.int (3 : Int32))] ∧ Z.Warmed39 U.vm ∧ U.heap = h0) (fun _ _ _ _ _ => True) (fun _ U o U' => ∃ v L, o = .returned v ∧ Q1_3 Z s_EQUAL s_GREATER s_GREATER_OR_EQUAL s_LESS s_LESS_OR_EQUAL h0 v U'.heap L ∧ FrameEnd U o U' L ({ frames := 0, cells := 0, slots := 0, locals := 0 } : Room).cells ({ frames := 0, cells := 0, slots := 0, locals := 0 } : Room).slots) := by
  refine MetFree.of_bodySF (plainFor_of_name pn_0) hisR ?_
  intro p e s m args below meth c s₁ Bd hml0 hP hK
  obtain ⟨rfl, hZ, hh⟩ := hP
  have hx := Bd.exec
  have hby := Bd.bytes
  have hml : c.maxLocals = 1 := hml0
  have hown : s.vm.findClass "com/example/columngen/columngen/workload/OperatorIsLowerBoundPinLaw" = some m.cls := findClass_of_methodNamed Bd.named
  have hnm := (name_of_methodNamed Bd.named Bd.method).1
  have X0 : Stand p l e ({ frames := 0, cells := 0, slots := 0, locals := 0 } : Room) s m #[(.int (3 : Int32))] below meth c s₁ [] 0 0 := Stand.of_body Bd
  have e0 : s₁.heap = h0 := by rw [← hh, Bd.state]; rfl
  have pre0 : ∀ t, Steps p.tables e below (s₁.setTop (mkF m 0 #[.val (.int (3 : Int32))] [])) t → Steps p.tables e below (s₁.setTop (entryFrame m #[(.int (3 : Int32))] 1)) t := fun t k => castTop (ef_1_3 m ) k
  obtain ⟨T1, X1, e1, st1⟩ := getS2 X0 hx hZ hown (host := "") (Or.inl (hw _ (List.mem_of_getElem? (i := 32) rfl))) Via.refl e0 S_GREATER (g := (mkF m 31 #[vI 3] [])) rfl (hb hby d1_31)
  obtain ⟨fs, hr, hrun, hended, hW, hsame⟩ := X1.leave (v := some (.ref s_GREATER)) (fun h => by rw [Bd.returns] at h; cases h)
  refine ⟨_, _, pre0 _ ?_, hrun, hended, _, _, rfl, ?_, ⟨_, rfl⟩, hW, hsame.mono (by decide) (by decide)⟩
  · show Steps _ _ _ (s₁.setTop (mkF m 0 #[vI 3] [])) _
    refine XS.iloadN X0.here hx rfl (hb hby d1_0) rfl ?_
    show Steps _ _ _ (s₁.setTop (mkF m 1 #[vI 3] [iI 3])) _
    refine XS.ifYes X0.here hx rfl (pc0 := 1) (pc' := 8) rfl (hb hby d1_1) rfl ((if0 _ _).trans (feq (by decide : ¬ ((3 : Int32) = (0 : Int32)))).2) (by decide) (by decide) ?_
    show Steps _ _ _ (s₁.setTop (mkF m 8 #[vI 3] [])) _
    refine XS.iloadN X0.here hx rfl (hb hby d1_8) rfl ?_
    show Steps _ _ _ (s₁.setTop (mkF m 9 #[vI 3] [iI 3])) _
    refine XS.iconst X0.here hx rfl (hb hby d1_9) ?_
    show Steps _ _ _ (s₁.setTop (mkF m 10 #[vI 3] [iI 1, iI 3])) _
    refine XS.icmpYes X0.here hx rfl (pc0 := 10) (pc' := 17) rfl (hb hby d1_10) rfl (feq (by decide : ¬ ((3 : Int32) = (1 : Int32)))).2 (by decide) (by decide) ?_
    show Steps _ _ _ (s₁.setTop (mkF m 17 #[vI 3] [])) _
    refine XS.iloadN X0.here hx rfl (hb hby d1_17) rfl ?_
    show Steps _ _ _ (s₁.setTop (mkF m 18 #[vI 3] [iI 3])) _
    refine XS.iconst X0.here hx rfl (hb hby d1_18) ?_
    show Steps _ _ _ (s₁.setTop (mkF m 19 #[vI 3] [iI 2, iI 3])) _
    refine XS.icmpYes X0.here hx rfl (pc0 := 19) (pc' := 26) rfl (hb hby d1_19) rfl (feq (by decide : ¬ ((3 : Int32) = (2 : Int32)))).2 (by decide) (by decide) ?_
    show Steps _ _ _ (s₁.setTop (mkF m 26 #[vI 3] [])) _
    refine XS.iloadN X0.here hx rfl (hb hby d1_26) rfl ?_
    show Steps _ _ _ (s₁.setTop (mkF m 27 #[vI 3] [iI 3])) _
    refine XS.iconst X0.here hx rfl (hb hby d1_27) ?_
    show Steps _ _ _ (s₁.setTop (mkF m 28 #[vI 3] [iI 3, iI 3])) _
    refine XS.icmpNo X0.here hx rfl (hb hby d1_28) rfl (teq (by decide : (3 : Int32) = (3 : Int32))).2 ?_
    show Steps _ _ _ (s₁.setTop (mkF m 31 #[vI 3] [])) _
    refine st1 _ ?_
    show Steps _ _ _ (T1.setTop (mkF m 34 #[vI 3] [iR s_GREATER])) _
    jvm_step X1.here [X1.here.top, hx, (hb hby d1_34), X1.method', Bd.returns, Value.isRef, FieldType.isReference]
    first | (intro acts; rw [hr _ acts rfl rfl rfl]) | rw [hr _ _ rfl rfl rfl]
    exact Steps.refl _
  · show Q1_3 Z s_EQUAL s_GREATER s_GREATER_OR_EQUAL s_LESS s_LESS_OR_EQUAL h0 _ T1.heap _
    rw [e1]
    exact ⟨rfl, rfl, rfl⟩
theorem d1_35 : decode method_2_code 35 = .ok (.getstatic 22, 3) := by decide +kernel
theorem d1_38 : decode method_2_code 38 = .ok (.areturn, 1) := by decide +kernel
theorem ef_1_4 (m : MethodId)  : entryFrame m #[(.int (4 : Int32))] 1 = mkF m 0 #[.val (.int (4 : Int32))] [] := by first | (simp [entryFrame, mkF, argsToLocals, Value.category]; done) | rfl
def Q1_4 (Z : State) (s_EQUAL : Addr) (s_GREATER : Addr) (s_GREATER_OR_EQUAL : Addr) (s_LESS : Addr) (s_LESS_OR_EQUAL : Addr) (h0 : Heap) (v : Option Value) (h : Heap) (L : List Loc) : Prop := v = some (.ref s_GREATER_OR_EQUAL) ∧ L = [] ∧ h = h0
set_option maxRecDepth 65536 in
set_option maxHeartbeats 40000000 in
theorem rm1_4 (l : Launch) (Z : State) (a0 : Array Value) (hw : ∀ d ∈ tables_1, d.before a0 Z = true) (ws : List Jvm.Cond) (s_EQUAL : Addr) (s_GREATER : Addr) (s_GREATER_OR_EQUAL : Addr) (s_LESS : Addr) (s_LESS_OR_EQUAL : Addr) (h0 : Heap) (S_EQUAL : Sta Z h0 "com/example/columngen/columngen/workload/Predicate$Operator" "EQUAL" "Lcom/example/columngen/columngen/workload/Predicate$Operator;" (.ref s_EQUAL)) (E_EQUAL : Exa Z h0 s_EQUAL "com/example/columngen/columngen/workload/Predicate$Operator") (S_GREATER : Sta Z h0 "com/example/columngen/columngen/workload/Predicate$Operator" "GREATER" "Lcom/example/columngen/columngen/workload/Predicate$Operator;" (.ref s_GREATER)) (E_GREATER : Exa Z h0 s_GREATER "com/example/columngen/columngen/workload/Predicate$Operator") (F_ordinal_EQUAL : Fld Z h0 s_EQUAL "java/lang/Enum" "ordinal" "I" (.int (0 : Int32))) (F_ordinal_GREATER : Fld Z h0 s_GREATER "java/lang/Enum" "ordinal" "I" (.int (3 : Int32))) (S_GREATER_OR_EQUAL : Sta Z h0 "com/example/columngen/columngen/workload/Predicate$Operator" "GREATER_OR_EQUAL" "Lcom/example/columngen/columngen/workload/Predicate$Operator;" (.ref s_GREATER_OR_EQUAL)) (E_GREATER_OR_EQUAL : Exa Z h0 s_GREATER_OR_EQUAL "com/example/columngen/columngen/workload/Predicate$Operator") (F_ordinal_GREATER_OR_EQUAL : Fld Z h0 s_GREATER_OR_EQUAL "java/lang/Enum" "ordinal" "I" (.int (4 : Int32))) (S_LESS : Sta Z h0 "com/example/columngen/columngen/workload/Predicate$Operator" "LESS" "Lcom/example/columngen/columngen/workload/Predicate$Operator;" (.ref s_LESS)) (E_LESS : Exa Z h0 s_LESS "com/example/columngen/columngen/workload/Predicate$Operator") (F_ordinal_LESS : Fld Z h0 s_LESS "java/lang/Enum" "ordinal" "I" (.int (1 : Int32))) (S_LESS_OR_EQUAL : Sta Z h0 "com/example/columngen/columngen/workload/Predicate$Operator" "LESS_OR_EQUAL" "Lcom/example/columngen/columngen/workload/Predicate$Operator;" (.ref s_LESS_OR_EQUAL)) (E_LESS_OR_EQUAL : Exa Z h0 s_LESS_OR_EQUAL "com/example/columngen/columngen/workload/Predicate$Operator") (F_ordinal_LESS_OR_EQUAL : Fld Z h0 s_LESS_OR_EQUAL "java/lang/Enum" "ordinal" "I" (.int (2 : Int32))) :
    MetFree l (⟨"com/example/columngen/columngen/workload/OperatorIsLowerBoundPinLaw", "pick", "(I)Lcom/example/columngen/columngen/workload/Predicate$Operator;"⟩ : MethodName) (head1 (Jvm.Cond.code (⟨"com/example/columngen/columngen/workload/OperatorIsLowerBoundPinLaw", "pick", "(I)Lcom/example/columngen/columngen/workload/Predicate$Operator;"⟩ : MethodName) method_2_code 1 (some (.object "com/example/columngen/columngen/workload/Predicate$Operator")) :: ws) ({ frames := 0, cells := 0, slots := 0, locals := 0 } : Room)) (fun a U => a = #[(.int (4 : Int32))] ∧ Z.Warmed39 U.vm ∧ U.heap = h0) (fun _ _ _ _ _ => True) (fun _ U o U' => ∃ v L, o = .returned v ∧ Q1_4 Z s_EQUAL s_GREATER s_GREATER_OR_EQUAL s_LESS s_LESS_OR_EQUAL h0 v U'.heap L ∧ FrameEnd U o U' L ({ frames := 0, cells := 0, slots := 0, locals := 0 } : Room).cells ({ frames := 0, cells := 0, slots := 0, locals := 0 } : Room).slots) := by
  refine MetFree.of_bodySF (plainFor_of_name pn_0) hisR ?_
  intro p e s m args below meth c s₁ Bd hml0 hP hK
  obtain ⟨rfl, hZ, hh⟩ := hP
  have hx := Bd.exec
  have hby := Bd.bytes
  have hml : c.maxLocals = 1 := hml0
  have hown : s.vm.findClass "com/example/columngen/columngen/workload/OperatorIsLowerBoundPinLaw" = some m.cls := findClass_of_methodNamed Bd.named
  have hnm := (name_of_methodNamed Bd.named Bd.method).1
  have X0 : Stand p l e ({ frames := 0, cells := 0, slots := 0, locals := 0 } : Room) s m #[(.int (4 : Int32))] below meth c s₁ [] 0 0 := Stand.of_body Bd
  have e0 : s₁.heap = h0 := by rw [← hh, Bd.state]; rfl
  have pre0 : ∀ t, Steps p.tables e below (s₁.setTop (mkF m 0 #[.val (.int (4 : Int32))] [])) t → Steps p.tables e below (s₁.setTop (entryFrame m #[(.int (4 : Int32))] 1)) t := fun t k => castTop (ef_1_4 m ) k
  obtain ⟨T1, X1, e1, st1⟩ := getS2 X0 hx hZ hown (host := "") (Or.inl (hw _ (List.mem_of_getElem? (i := 31) rfl))) Via.refl e0 S_GREATER_OR_EQUAL (g := (mkF m 35 #[vI 4] [])) rfl (hb hby d1_35)
  obtain ⟨fs, hr, hrun, hended, hW, hsame⟩ := X1.leave (v := some (.ref s_GREATER_OR_EQUAL)) (fun h => by rw [Bd.returns] at h; cases h)
  refine ⟨_, _, pre0 _ ?_, hrun, hended, _, _, rfl, ?_, ⟨_, rfl⟩, hW, hsame.mono (by decide) (by decide)⟩
  · show Steps _ _ _ (s₁.setTop (mkF m 0 #[vI 4] [])) _
    refine XS.iloadN X0.here hx rfl (hb hby d1_0) rfl ?_
    show Steps _ _ _ (s₁.setTop (mkF m 1 #[vI 4] [iI 4])) _
    refine XS.ifYes X0.here hx rfl (pc0 := 1) (pc' := 8) rfl (hb hby d1_1) rfl ((if0 _ _).trans (feq (by decide : ¬ ((4 : Int32) = (0 : Int32)))).2) (by decide) (by decide) ?_
    show Steps _ _ _ (s₁.setTop (mkF m 8 #[vI 4] [])) _
    refine XS.iloadN X0.here hx rfl (hb hby d1_8) rfl ?_
    show Steps _ _ _ (s₁.setTop (mkF m 9 #[vI 4] [iI 4])) _
    refine XS.iconst X0.here hx rfl (hb hby d1_9) ?_
    show Steps _ _ _ (s₁.setTop (mkF m 10 #[vI 4] [iI 1, iI 4])) _
    refine XS.icmpYes X0.here hx rfl (pc0 := 10) (pc' := 17) rfl (hb hby d1_10) rfl (feq (by decide : ¬ ((4 : Int32) = (1 : Int32)))).2 (by decide) (by decide) ?_
    show Steps _ _ _ (s₁.setTop (mkF m 17 #[vI 4] [])) _
    refine XS.iloadN X0.here hx rfl (hb hby d1_17) rfl ?_
    show Steps _ _ _ (s₁.setTop (mkF m 18 #[vI 4] [iI 4])) _
    refine XS.iconst X0.here hx rfl (hb hby d1_18) ?_
    show Steps _ _ _ (s₁.setTop (mkF m 19 #[vI 4] [iI 2, iI 4])) _
    refine XS.icmpYes X0.here hx rfl (pc0 := 19) (pc' := 26) rfl (hb hby d1_19) rfl (feq (by decide : ¬ ((4 : Int32) = (2 : Int32)))).2 (by decide) (by decide) ?_
    show Steps _ _ _ (s₁.setTop (mkF m 26 #[vI 4] [])) _
    refine XS.iloadN X0.here hx rfl (hb hby d1_26) rfl ?_
    show Steps _ _ _ (s₁.setTop (mkF m 27 #[vI 4] [iI 4])) _
    refine XS.iconst X0.here hx rfl (hb hby d1_27) ?_
    show Steps _ _ _ (s₁.setTop (mkF m 28 #[vI 4] [iI 3, iI 4])) _
    refine XS.icmpYes X0.here hx rfl (pc0 := 28) (pc' := 35) rfl (hb hby d1_28) rfl (feq (by decide : ¬ ((4 : Int32) = (3 : Int32)))).2 (by decide) (by decide) ?_
    show Steps _ _ _ (s₁.setTop (mkF m 35 #[vI 4] [])) _
    refine st1 _ ?_
    show Steps _ _ _ (T1.setTop (mkF m 38 #[vI 4] [iR s_GREATER_OR_EQUAL])) _
    jvm_step X1.here [X1.here.top, hx, (hb hby d1_38), X1.method', Bd.returns, Value.isRef, FieldType.isReference]
    first | (intro acts; rw [hr _ acts rfl rfl rfl]) | rw [hr _ _ rfl rfl rfl]
    exact Steps.refl _
  · show Q1_4 Z s_EQUAL s_GREATER s_GREATER_OR_EQUAL s_LESS s_LESS_OR_EQUAL h0 _ T1.heap _
    rw [e1]
    exact ⟨rfl, rfl, rfl⟩
theorem d2_0 : decode prog_77_method_7_code 0 = .ok (.aload_n 0, 1) := by decide +kernel
theorem d2_1 : decode prog_77_method_7_code 1 = .ok (.getstatic 13, 3) := by decide +kernel
theorem d2_4 : decode prog_77_method_7_code 4 = .ok (.if_acmp .eq 10, 3) := by decide +kernel
theorem d2_7 : decode prog_77_method_7_code 7 = .ok (.aload_n 0, 1) := by decide +kernel
theorem d2_8 : decode prog_77_method_7_code 8 = .ok (.getstatic 16, 3) := by decide +kernel
theorem d2_11 : decode prog_77_method_7_code 11 = .ok (.if_acmp .ne 7, 3) := by decide +kernel
theorem d2_18 : decode prog_77_method_7_code 18 = .ok (.iconst 0, 1) := by decide +kernel
theorem d2_19 : decode prog_77_method_7_code 19 = .ok (.ireturn, 1) := by decide +kernel
theorem pn_1 : plainName "com/example/columngen/columngen/workload/Predicate$Operator" = true := by first | (simp [plainName, overriddenIn]; done) | decide +kernel
theorem ef_2_0 (m : MethodId) (x0 : Addr) : entryFrame m #[(.ref x0)] 1 = mkF m 0 #[.val (.ref x0)] [] := by first | (simp [entryFrame, mkF, argsToLocals, Value.category]; done) | rfl
def Q2_0 (Z : State) (s_EQUAL : Addr) (s_GREATER : Addr) (s_GREATER_OR_EQUAL : Addr) (s_LESS : Addr) (s_LESS_OR_EQUAL : Addr) (h0 : Heap) (v : Option Value) (h : Heap) (L : List Loc) : Prop := v = some (.int (0 : Int32)) ∧ L = [] ∧ h = h0
set_option maxRecDepth 65536 in
set_option maxHeartbeats 40000000 in
theorem rm2_0 (l : Launch) (Z : State) (a0 : Array Value) (hw : ∀ d ∈ tables_1, d.before a0 Z = true) (ws : List Jvm.Cond) (s_EQUAL : Addr) (s_GREATER : Addr) (s_GREATER_OR_EQUAL : Addr) (s_LESS : Addr) (s_LESS_OR_EQUAL : Addr) (h0 : Heap) (S_EQUAL : Sta Z h0 "com/example/columngen/columngen/workload/Predicate$Operator" "EQUAL" "Lcom/example/columngen/columngen/workload/Predicate$Operator;" (.ref s_EQUAL)) (E_EQUAL : Exa Z h0 s_EQUAL "com/example/columngen/columngen/workload/Predicate$Operator") (S_GREATER : Sta Z h0 "com/example/columngen/columngen/workload/Predicate$Operator" "GREATER" "Lcom/example/columngen/columngen/workload/Predicate$Operator;" (.ref s_GREATER)) (E_GREATER : Exa Z h0 s_GREATER "com/example/columngen/columngen/workload/Predicate$Operator") (F_ordinal_EQUAL : Fld Z h0 s_EQUAL "java/lang/Enum" "ordinal" "I" (.int (0 : Int32))) (F_ordinal_GREATER : Fld Z h0 s_GREATER "java/lang/Enum" "ordinal" "I" (.int (3 : Int32))) (S_GREATER_OR_EQUAL : Sta Z h0 "com/example/columngen/columngen/workload/Predicate$Operator" "GREATER_OR_EQUAL" "Lcom/example/columngen/columngen/workload/Predicate$Operator;" (.ref s_GREATER_OR_EQUAL)) (E_GREATER_OR_EQUAL : Exa Z h0 s_GREATER_OR_EQUAL "com/example/columngen/columngen/workload/Predicate$Operator") (F_ordinal_GREATER_OR_EQUAL : Fld Z h0 s_GREATER_OR_EQUAL "java/lang/Enum" "ordinal" "I" (.int (4 : Int32))) (S_LESS : Sta Z h0 "com/example/columngen/columngen/workload/Predicate$Operator" "LESS" "Lcom/example/columngen/columngen/workload/Predicate$Operator;" (.ref s_LESS)) (E_LESS : Exa Z h0 s_LESS "com/example/columngen/columngen/workload/Predicate$Operator") (F_ordinal_LESS : Fld Z h0 s_LESS "java/lang/Enum" "ordinal" "I" (.int (1 : Int32))) (S_LESS_OR_EQUAL : Sta Z h0 "com/example/columngen/columngen/workload/Predicate$Operator" "LESS_OR_EQUAL" "Lcom/example/columngen/columngen/workload/Predicate$Operator;" (.ref s_LESS_OR_EQUAL)) (E_LESS_OR_EQUAL : Exa Z h0 s_LESS_OR_EQUAL "com/example/columngen/columngen/workload/Predicate$Operator") (F_ordinal_LESS_OR_EQUAL : Fld Z h0 s_LESS_OR_EQUAL "java/lang/Enum" "ordinal" "I" (.int (2 : Int32))) :
    MetFree l (⟨"com/example/columngen/columngen/workload/Predicate$Operator", "isLowerBound", "()Z"⟩ : MethodName) (head1 (Jvm.Cond.code (⟨"com/example/columngen/columngen/workload/Predicate$Operator", "isLowerBound", "()Z"⟩ : MethodName) prog_77_method_7_code 1 (some .boolean) :: ws) ({ frames := 0, cells := 0, slots := 0, locals := 0 } : Room)) (fun a U => a = #[(.ref s_EQUAL)] ∧ Z.Warmed39 U.vm ∧ U.heap = h0) (fun _ _ _ _ _ => True) (fun _ U o U' => ∃ v L, o = .returned v ∧ Q2_0 Z s_EQUAL s_GREATER s_GREATER_OR_EQUAL s_LESS s_LESS_OR_EQUAL h0 v U'.heap L ∧ FrameEnd U o U' L ({ frames := 0, cells := 0, slots := 0, locals := 0 } : Room).cells ({ frames := 0, cells := 0, slots := 0, locals := 0 } : Room).slots) := by
  refine MetFree.of_bodySF (plainFor_of_name pn_1) hisR ?_
  intro p e s m args below meth c s₁ Bd hml0 hP hK
  obtain ⟨rfl, hZ, hh⟩ := hP
  have hx := Bd.exec
  have hby := Bd.bytes
  have hml : c.maxLocals = 1 := hml0
  have hown : s.vm.findClass "com/example/columngen/columngen/workload/Predicate$Operator" = some m.cls := findClass_of_methodNamed Bd.named
  have hnm := (name_of_methodNamed Bd.named Bd.method).1
  have X0 : Stand p l e ({ frames := 0, cells := 0, slots := 0, locals := 0 } : Room) s m #[(.ref s_EQUAL)] below meth c s₁ [] 0 0 := Stand.of_body Bd
  have e0 : s₁.heap = h0 := by rw [← hh, Bd.state]; rfl
  have pre0 : ∀ t, Steps p.tables e below (s₁.setTop (mkF m 0 #[.val (.ref s_EQUAL)] [])) t → Steps p.tables e below (s₁.setTop (entryFrame m #[(.ref s_EQUAL)] 1)) t := fun t k => castTop (ef_2_0 m s_EQUAL) k
  have ne_EQUAL_GREATER : s_EQUAL ≠ s_GREATER := F_ordinal_EQUAL.ne F_ordinal_GREATER (by simp)
  have ne_EQUAL_GREATER_OR_EQUAL : s_EQUAL ≠ s_GREATER_OR_EQUAL := F_ordinal_EQUAL.ne F_ordinal_GREATER_OR_EQUAL (by simp)
  have ne_GREATER_GREATER_OR_EQUAL : s_GREATER ≠ s_GREATER_OR_EQUAL := F_ordinal_GREATER.ne F_ordinal_GREATER_OR_EQUAL (by simp)
  have ne_GREATER_LESS : s_GREATER ≠ s_LESS := F_ordinal_GREATER.ne F_ordinal_LESS (by simp)
  have ne_GREATER_LESS_OR_EQUAL : s_GREATER ≠ s_LESS_OR_EQUAL := F_ordinal_GREATER.ne F_ordinal_LESS_OR_EQUAL (by simp)
  have ne_GREATER_OR_EQUAL_LESS : s_GREATER_OR_EQUAL ≠ s_LESS := F_ordinal_GREATER_OR_EQUAL.ne F_ordinal_LESS (by simp)
  have ne_GREATER_OR_EQUAL_LESS_OR_EQUAL : s_GREATER_OR_EQUAL ≠ s_LESS_OR_EQUAL := F_ordinal_GREATER_OR_EQUAL.ne F_ordinal_LESS_OR_EQUAL (by simp)
  obtain ⟨T1, X1, e1, st1⟩ := getS2 X0 hx hZ hown (host := "") (Or.inl (hw _ (List.mem_of_getElem? (i := 13) rfl))) Via.refl e0 S_GREATER (g := (mkF m 1 #[vR s_EQUAL] [iR s_EQUAL])) rfl (hb hby d2_1)
  obtain ⟨T2, X2, e2, st2⟩ := getS2 X1 hx hZ hown (host := "") (Or.inl (hw _ (List.mem_of_getElem? (i := 15) rfl))) Via.refl e1 S_GREATER_OR_EQUAL (g := (mkF m 8 #[vR s_EQUAL] [iR s_EQUAL])) rfl (hb hby d2_8)
  obtain ⟨fs, hr, hrun, hended, hW, hsame⟩ := X2.leave (v := some (.int (0 : Int32))) (fun h => by rw [Bd.returns] at h; cases h)
  refine ⟨_, _, pre0 _ ?_, hrun, hended, _, _, rfl, ?_, ⟨_, rfl⟩, hW, hsame.mono (by decide) (by decide)⟩
  · show Steps _ _ _ (s₁.setTop (mkF m 0 #[vR s_EQUAL] [])) _
    refine XS.aloadN X0.here hx rfl (hb hby d2_0) rfl rfl ?_
    show Steps _ _ _ (s₁.setTop (mkF m 1 #[vR s_EQUAL] [iR s_EQUAL])) _
    refine st1 _ ?_
    show Steps _ _ _ (T1.setTop (mkF m 4 #[vR s_EQUAL] [iR s_GREATER, iR s_EQUAL])) _
    refine Jvm.RoadKit.acmp (g := (mkF m 4 #[vR s_EQUAL] [iR s_GREATER, iR s_EQUAL])) X1 hx rfl rfl rfl (pc0 := 4) (pc' := 7) (same := false) rfl (hb hby d2_4) rfl (decide_eq_false fun q => ne_EQUAL_GREATER (Value.ref.inj q)) (by decide) (by decide) ?_
    show Steps _ _ _ (T1.setTop (mkF m 7 #[vR s_EQUAL] [])) _
    refine XS.aloadN X1.here hx rfl (hb hby d2_7) rfl rfl ?_
    show Steps _ _ _ (T1.setTop (mkF m 8 #[vR s_EQUAL] [iR s_EQUAL])) _
    refine st2 _ ?_
    show Steps _ _ _ (T2.setTop (mkF m 11 #[vR s_EQUAL] [iR s_GREATER_OR_EQUAL, iR s_EQUAL])) _
    refine Jvm.RoadKit.acmp (g := (mkF m 11 #[vR s_EQUAL] [iR s_GREATER_OR_EQUAL, iR s_EQUAL])) X2 hx rfl rfl rfl (pc0 := 11) (pc' := 18) (same := false) rfl (hb hby d2_11) rfl (decide_eq_false fun q => ne_EQUAL_GREATER_OR_EQUAL (Value.ref.inj q)) (by decide) (by decide) ?_
    show Steps _ _ _ (T2.setTop (mkF m 18 #[vR s_EQUAL] [])) _
    refine XS.iconst X2.here hx rfl (hb hby d2_18) ?_
    show Steps _ _ _ (T2.setTop (mkF m 19 #[vR s_EQUAL] [iI 0])) _
    exact retN X2 hx (t := .boolean) Bd.returns (by simp) (hb hby d2_19) hr
  · show Q2_0 Z s_EQUAL s_GREATER s_GREATER_OR_EQUAL s_LESS s_LESS_OR_EQUAL h0 _ T2.heap _
    rw [e2]
    exact ⟨rfl, rfl, rfl⟩
theorem ef_2_1 (m : MethodId) (x0 : Addr) : entryFrame m #[(.ref x0)] 1 = mkF m 0 #[.val (.ref x0)] [] := by first | (simp [entryFrame, mkF, argsToLocals, Value.category]; done) | rfl
def Q2_1 (Z : State) (s_EQUAL : Addr) (s_GREATER : Addr) (s_GREATER_OR_EQUAL : Addr) (s_LESS : Addr) (s_LESS_OR_EQUAL : Addr) (h0 : Heap) (v : Option Value) (h : Heap) (L : List Loc) : Prop := v = some (.int (0 : Int32)) ∧ L = [] ∧ h = h0
set_option maxRecDepth 65536 in
set_option maxHeartbeats 40000000 in
theorem rm2_1 (l : Launch) (Z : State) (a0 : Array Value) (hw : ∀ d ∈ tables_1, d.before a0 Z = true) (ws : List Jvm.Cond) (s_EQUAL : Addr) (s_GREATER : Addr) (s_GREATER_OR_EQUAL : Addr) (s_LESS : Addr) (s_LESS_OR_EQUAL : Addr) (h0 : Heap) (S_EQUAL : Sta Z h0 "com/example/columngen/columngen/workload/Predicate$Operator" "EQUAL" "Lcom/example/columngen/columngen/workload/Predicate$Operator;" (.ref s_EQUAL)) (E_EQUAL : Exa Z h0 s_EQUAL "com/example/columngen/columngen/workload/Predicate$Operator") (S_GREATER : Sta Z h0 "com/example/columngen/columngen/workload/Predicate$Operator" "GREATER" "Lcom/example/columngen/columngen/workload/Predicate$Operator;" (.ref s_GREATER)) (E_GREATER : Exa Z h0 s_GREATER "com/example/columngen/columngen/workload/Predicate$Operator") (F_ordinal_EQUAL : Fld Z h0 s_EQUAL "java/lang/Enum" "ordinal" "I" (.int (0 : Int32))) (F_ordinal_GREATER : Fld Z h0 s_GREATER "java/lang/Enum" "ordinal" "I" (.int (3 : Int32))) (S_GREATER_OR_EQUAL : Sta Z h0 "com/example/columngen/columngen/workload/Predicate$Operator" "GREATER_OR_EQUAL" "Lcom/example/columngen/columngen/workload/Predicate$Operator;" (.ref s_GREATER_OR_EQUAL)) (E_GREATER_OR_EQUAL : Exa Z h0 s_GREATER_OR_EQUAL "com/example/columngen/columngen/workload/Predicate$Operator") (F_ordinal_GREATER_OR_EQUAL : Fld Z h0 s_GREATER_OR_EQUAL "java/lang/Enum" "ordinal" "I" (.int (4 : Int32))) (S_LESS : Sta Z h0 "com/example/columngen/columngen/workload/Predicate$Operator" "LESS" "Lcom/example/columngen/columngen/workload/Predicate$Operator;" (.ref s_LESS)) (E_LESS : Exa Z h0 s_LESS "com/example/columngen/columngen/workload/Predicate$Operator") (F_ordinal_LESS : Fld Z h0 s_LESS "java/lang/Enum" "ordinal" "I" (.int (1 : Int32))) (S_LESS_OR_EQUAL : Sta Z h0 "com/example/columngen/columngen/workload/Predicate$Operator" "LESS_OR_EQUAL" "Lcom/example/columngen/columngen/workload/Predicate$Operator;" (.ref s_LESS_OR_EQUAL)) (E_LESS_OR_EQUAL : Exa Z h0 s_LESS_OR_EQUAL "com/example/columngen/columngen/workload/Predicate$Operator") (F_ordinal_LESS_OR_EQUAL : Fld Z h0 s_LESS_OR_EQUAL "java/lang/Enum" "ordinal" "I" (.int (2 : Int32))) :
    MetFree l (⟨"com/example/columngen/columngen/workload/Predicate$Operator", "isLowerBound", "()Z"⟩ : MethodName) (head1 (Jvm.Cond.code (⟨"com/example/columngen/columngen/workload/Predicate$Operator", "isLowerBound", "()Z"⟩ : MethodName) prog_77_method_7_code 1 (some .boolean) :: ws) ({ frames := 0, cells := 0, slots := 0, locals := 0 } : Room)) (fun a U => a = #[(.ref s_LESS)] ∧ Z.Warmed39 U.vm ∧ U.heap = h0) (fun _ _ _ _ _ => True) (fun _ U o U' => ∃ v L, o = .returned v ∧ Q2_1 Z s_EQUAL s_GREATER s_GREATER_OR_EQUAL s_LESS s_LESS_OR_EQUAL h0 v U'.heap L ∧ FrameEnd U o U' L ({ frames := 0, cells := 0, slots := 0, locals := 0 } : Room).cells ({ frames := 0, cells := 0, slots := 0, locals := 0 } : Room).slots) := by
  refine MetFree.of_bodySF (plainFor_of_name pn_1) hisR ?_
  intro p e s m args below meth c s₁ Bd hml0 hP hK
  obtain ⟨rfl, hZ, hh⟩ := hP
  have hx := Bd.exec
  have hby := Bd.bytes
  have hml : c.maxLocals = 1 := hml0
  have hown : s.vm.findClass "com/example/columngen/columngen/workload/Predicate$Operator" = some m.cls := findClass_of_methodNamed Bd.named
  have hnm := (name_of_methodNamed Bd.named Bd.method).1
  have X0 : Stand p l e ({ frames := 0, cells := 0, slots := 0, locals := 0 } : Room) s m #[(.ref s_LESS)] below meth c s₁ [] 0 0 := Stand.of_body Bd
  have e0 : s₁.heap = h0 := by rw [← hh, Bd.state]; rfl
  have pre0 : ∀ t, Steps p.tables e below (s₁.setTop (mkF m 0 #[.val (.ref s_LESS)] [])) t → Steps p.tables e below (s₁.setTop (entryFrame m #[(.ref s_LESS)] 1)) t := fun t k => castTop (ef_2_1 m s_LESS) k
  have ne_EQUAL_GREATER : s_EQUAL ≠ s_GREATER := F_ordinal_EQUAL.ne F_ordinal_GREATER (by simp)
  have ne_EQUAL_GREATER_OR_EQUAL : s_EQUAL ≠ s_GREATER_OR_EQUAL := F_ordinal_EQUAL.ne F_ordinal_GREATER_OR_EQUAL (by simp)
  have ne_GREATER_GREATER_OR_EQUAL : s_GREATER ≠ s_GREATER_OR_EQUAL := F_ordinal_GREATER.ne F_ordinal_GREATER_OR_EQUAL (by simp)
  have ne_GREATER_LESS : s_GREATER ≠ s_LESS := F_ordinal_GREATER.ne F_ordinal_LESS (by simp)
  have ne_GREATER_LESS_OR_EQUAL : s_GREATER ≠ s_LESS_OR_EQUAL := F_ordinal_GREATER.ne F_ordinal_LESS_OR_EQUAL (by simp)
  have ne_GREATER_OR_EQUAL_LESS : s_GREATER_OR_EQUAL ≠ s_LESS := F_ordinal_GREATER_OR_EQUAL.ne F_ordinal_LESS (by simp)
  have ne_GREATER_OR_EQUAL_LESS_OR_EQUAL : s_GREATER_OR_EQUAL ≠ s_LESS_OR_EQUAL := F_ordinal_GREATER_OR_EQUAL.ne F_ordinal_LESS_OR_EQUAL (by simp)
  obtain ⟨T1, X1, e1, st1⟩ := getS2 X0 hx hZ hown (host := "") (Or.inl (hw _ (List.mem_of_getElem? (i := 13) rfl))) Via.refl e0 S_GREATER (g := (mkF m 1 #[vR s_LESS] [iR s_LESS])) rfl (hb hby d2_1)
  obtain ⟨T2, X2, e2, st2⟩ := getS2 X1 hx hZ hown (host := "") (Or.inl (hw _ (List.mem_of_getElem? (i := 15) rfl))) Via.refl e1 S_GREATER_OR_EQUAL (g := (mkF m 8 #[vR s_LESS] [iR s_LESS])) rfl (hb hby d2_8)
  obtain ⟨fs, hr, hrun, hended, hW, hsame⟩ := X2.leave (v := some (.int (0 : Int32))) (fun h => by rw [Bd.returns] at h; cases h)
  refine ⟨_, _, pre0 _ ?_, hrun, hended, _, _, rfl, ?_, ⟨_, rfl⟩, hW, hsame.mono (by decide) (by decide)⟩
  · show Steps _ _ _ (s₁.setTop (mkF m 0 #[vR s_LESS] [])) _
    refine XS.aloadN X0.here hx rfl (hb hby d2_0) rfl rfl ?_
    show Steps _ _ _ (s₁.setTop (mkF m 1 #[vR s_LESS] [iR s_LESS])) _
    refine st1 _ ?_
    show Steps _ _ _ (T1.setTop (mkF m 4 #[vR s_LESS] [iR s_GREATER, iR s_LESS])) _
    refine Jvm.RoadKit.acmp (g := (mkF m 4 #[vR s_LESS] [iR s_GREATER, iR s_LESS])) X1 hx rfl rfl rfl (pc0 := 4) (pc' := 7) (same := false) rfl (hb hby d2_4) rfl (decide_eq_false fun q => (Ne.symm ne_GREATER_LESS) (Value.ref.inj q)) (by decide) (by decide) ?_
    show Steps _ _ _ (T1.setTop (mkF m 7 #[vR s_LESS] [])) _
    refine XS.aloadN X1.here hx rfl (hb hby d2_7) rfl rfl ?_
    show Steps _ _ _ (T1.setTop (mkF m 8 #[vR s_LESS] [iR s_LESS])) _
    refine st2 _ ?_
    show Steps _ _ _ (T2.setTop (mkF m 11 #[vR s_LESS] [iR s_GREATER_OR_EQUAL, iR s_LESS])) _
    refine Jvm.RoadKit.acmp (g := (mkF m 11 #[vR s_LESS] [iR s_GREATER_OR_EQUAL, iR s_LESS])) X2 hx rfl rfl rfl (pc0 := 11) (pc' := 18) (same := false) rfl (hb hby d2_11) rfl (decide_eq_false fun q => (Ne.symm ne_GREATER_OR_EQUAL_LESS) (Value.ref.inj q)) (by decide) (by decide) ?_
    show Steps _ _ _ (T2.setTop (mkF m 18 #[vR s_LESS] [])) _
    refine XS.iconst X2.here hx rfl (hb hby d2_18) ?_
    show Steps _ _ _ (T2.setTop (mkF m 19 #[vR s_LESS] [iI 0])) _
    exact retN X2 hx (t := .boolean) Bd.returns (by simp) (hb hby d2_19) hr
  · show Q2_1 Z s_EQUAL s_GREATER s_GREATER_OR_EQUAL s_LESS s_LESS_OR_EQUAL h0 _ T2.heap _
    rw [e2]
    exact ⟨rfl, rfl, rfl⟩
theorem ef_2_2 (m : MethodId) (x0 : Addr) : entryFrame m #[(.ref x0)] 1 = mkF m 0 #[.val (.ref x0)] [] := by first | (simp [entryFrame, mkF, argsToLocals, Value.category]; done) | rfl
def Q2_2 (Z : State) (s_EQUAL : Addr) (s_GREATER : Addr) (s_GREATER_OR_EQUAL : Addr) (s_LESS : Addr) (s_LESS_OR_EQUAL : Addr) (h0 : Heap) (v : Option Value) (h : Heap) (L : List Loc) : Prop := v = some (.int (0 : Int32)) ∧ L = [] ∧ h = h0
set_option maxRecDepth 65536 in
set_option maxHeartbeats 40000000 in
theorem rm2_2 (l : Launch) (Z : State) (a0 : Array Value) (hw : ∀ d ∈ tables_1, d.before a0 Z = true) (ws : List Jvm.Cond) (s_EQUAL : Addr) (s_GREATER : Addr) (s_GREATER_OR_EQUAL : Addr) (s_LESS : Addr) (s_LESS_OR_EQUAL : Addr) (h0 : Heap) (S_EQUAL : Sta Z h0 "com/example/columngen/columngen/workload/Predicate$Operator" "EQUAL" "Lcom/example/columngen/columngen/workload/Predicate$Operator;" (.ref s_EQUAL)) (E_EQUAL : Exa Z h0 s_EQUAL "com/example/columngen/columngen/workload/Predicate$Operator") (S_GREATER : Sta Z h0 "com/example/columngen/columngen/workload/Predicate$Operator" "GREATER" "Lcom/example/columngen/columngen/workload/Predicate$Operator;" (.ref s_GREATER)) (E_GREATER : Exa Z h0 s_GREATER "com/example/columngen/columngen/workload/Predicate$Operator") (F_ordinal_EQUAL : Fld Z h0 s_EQUAL "java/lang/Enum" "ordinal" "I" (.int (0 : Int32))) (F_ordinal_GREATER : Fld Z h0 s_GREATER "java/lang/Enum" "ordinal" "I" (.int (3 : Int32))) (S_GREATER_OR_EQUAL : Sta Z h0 "com/example/columngen/columngen/workload/Predicate$Operator" "GREATER_OR_EQUAL" "Lcom/example/columngen/columngen/workload/Predicate$Operator;" (.ref s_GREATER_OR_EQUAL)) (E_GREATER_OR_EQUAL : Exa Z h0 s_GREATER_OR_EQUAL "com/example/columngen/columngen/workload/Predicate$Operator") (F_ordinal_GREATER_OR_EQUAL : Fld Z h0 s_GREATER_OR_EQUAL "java/lang/Enum" "ordinal" "I" (.int (4 : Int32))) (S_LESS : Sta Z h0 "com/example/columngen/columngen/workload/Predicate$Operator" "LESS" "Lcom/example/columngen/columngen/workload/Predicate$Operator;" (.ref s_LESS)) (E_LESS : Exa Z h0 s_LESS "com/example/columngen/columngen/workload/Predicate$Operator") (F_ordinal_LESS : Fld Z h0 s_LESS "java/lang/Enum" "ordinal" "I" (.int (1 : Int32))) (S_LESS_OR_EQUAL : Sta Z h0 "com/example/columngen/columngen/workload/Predicate$Operator" "LESS_OR_EQUAL" "Lcom/example/columngen/columngen/workload/Predicate$Operator;" (.ref s_LESS_OR_EQUAL)) (E_LESS_OR_EQUAL : Exa Z h0 s_LESS_OR_EQUAL "com/example/columngen/columngen/workload/Predicate$Operator") (F_ordinal_LESS_OR_EQUAL : Fld Z h0 s_LESS_OR_EQUAL "java/lang/Enum" "ordinal" "I" (.int (2 : Int32))) :
    MetFree l (⟨"com/example/columngen/columngen/workload/Predicate$Operator", "isLowerBound", "()Z"⟩ : MethodName) (head1 (Jvm.Cond.code (⟨"com/example/columngen/columngen/workload/Predicate$Operator", "isLowerBound", "()Z"⟩ : MethodName) prog_77_method_7_code 1 (some .boolean) :: ws) ({ frames := 0, cells := 0, slots := 0, locals := 0 } : Room)) (fun a U => a = #[(.ref s_LESS_OR_EQUAL)] ∧ Z.Warmed39 U.vm ∧ U.heap = h0) (fun _ _ _ _ _ => True) (fun _ U o U' => ∃ v L, o = .returned v ∧ Q2_2 Z s_EQUAL s_GREATER s_GREATER_OR_EQUAL s_LESS s_LESS_OR_EQUAL h0 v U'.heap L ∧ FrameEnd U o U' L ({ frames := 0, cells := 0, slots := 0, locals := 0 } : Room).cells ({ frames := 0, cells := 0, slots := 0, locals := 0 } : Room).slots) := by
  refine MetFree.of_bodySF (plainFor_of_name pn_1) hisR ?_
  intro p e s m args below meth c s₁ Bd hml0 hP hK
  obtain ⟨rfl, hZ, hh⟩ := hP
  have hx := Bd.exec
  have hby := Bd.bytes
  have hml : c.maxLocals = 1 := hml0
  have hown : s.vm.findClass "com/example/columngen/columngen/workload/Predicate$Operator" = some m.cls := findClass_of_methodNamed Bd.named
  have hnm := (name_of_methodNamed Bd.named Bd.method).1
  have X0 : Stand p l e ({ frames := 0, cells := 0, slots := 0, locals := 0 } : Room) s m #[(.ref s_LESS_OR_EQUAL)] below meth c s₁ [] 0 0 := Stand.of_body Bd
  have e0 : s₁.heap = h0 := by rw [← hh, Bd.state]; rfl
  have pre0 : ∀ t, Steps p.tables e below (s₁.setTop (mkF m 0 #[.val (.ref s_LESS_OR_EQUAL)] [])) t → Steps p.tables e below (s₁.setTop (entryFrame m #[(.ref s_LESS_OR_EQUAL)] 1)) t := fun t k => castTop (ef_2_2 m s_LESS_OR_EQUAL) k
  have ne_EQUAL_GREATER : s_EQUAL ≠ s_GREATER := F_ordinal_EQUAL.ne F_ordinal_GREATER (by simp)
  have ne_EQUAL_GREATER_OR_EQUAL : s_EQUAL ≠ s_GREATER_OR_EQUAL := F_ordinal_EQUAL.ne F_ordinal_GREATER_OR_EQUAL (by simp)
  have ne_GREATER_GREATER_OR_EQUAL : s_GREATER ≠ s_GREATER_OR_EQUAL := F_ordinal_GREATER.ne F_ordinal_GREATER_OR_EQUAL (by simp)
  have ne_GREATER_LESS : s_GREATER ≠ s_LESS := F_ordinal_GREATER.ne F_ordinal_LESS (by simp)
  have ne_GREATER_LESS_OR_EQUAL : s_GREATER ≠ s_LESS_OR_EQUAL := F_ordinal_GREATER.ne F_ordinal_LESS_OR_EQUAL (by simp)
  have ne_GREATER_OR_EQUAL_LESS : s_GREATER_OR_EQUAL ≠ s_LESS := F_ordinal_GREATER_OR_EQUAL.ne F_ordinal_LESS (by simp)
  have ne_GREATER_OR_EQUAL_LESS_OR_EQUAL : s_GREATER_OR_EQUAL ≠ s_LESS_OR_EQUAL := F_ordinal_GREATER_OR_EQUAL.ne F_ordinal_LESS_OR_EQUAL (by simp)
  obtain ⟨T1, X1, e1, st1⟩ := getS2 X0 hx hZ hown (host := "") (Or.inl (hw _ (List.mem_of_getElem? (i := 13) rfl))) Via.refl e0 S_GREATER (g := (mkF m 1 #[vR s_LESS_OR_EQUAL] [iR s_LESS_OR_EQUAL])) rfl (hb hby d2_1)
  obtain ⟨T2, X2, e2, st2⟩ := getS2 X1 hx hZ hown (host := "") (Or.inl (hw _ (List.mem_of_getElem? (i := 15) rfl))) Via.refl e1 S_GREATER_OR_EQUAL (g := (mkF m 8 #[vR s_LESS_OR_EQUAL] [iR s_LESS_OR_EQUAL])) rfl (hb hby d2_8)
  obtain ⟨fs, hr, hrun, hended, hW, hsame⟩ := X2.leave (v := some (.int (0 : Int32))) (fun h => by rw [Bd.returns] at h; cases h)
  refine ⟨_, _, pre0 _ ?_, hrun, hended, _, _, rfl, ?_, ⟨_, rfl⟩, hW, hsame.mono (by decide) (by decide)⟩
  · show Steps _ _ _ (s₁.setTop (mkF m 0 #[vR s_LESS_OR_EQUAL] [])) _
    refine XS.aloadN X0.here hx rfl (hb hby d2_0) rfl rfl ?_
    show Steps _ _ _ (s₁.setTop (mkF m 1 #[vR s_LESS_OR_EQUAL] [iR s_LESS_OR_EQUAL])) _
    refine st1 _ ?_
    show Steps _ _ _ (T1.setTop (mkF m 4 #[vR s_LESS_OR_EQUAL] [iR s_GREATER, iR s_LESS_OR_EQUAL])) _
    refine Jvm.RoadKit.acmp (g := (mkF m 4 #[vR s_LESS_OR_EQUAL] [iR s_GREATER, iR s_LESS_OR_EQUAL])) X1 hx rfl rfl rfl (pc0 := 4) (pc' := 7) (same := false) rfl (hb hby d2_4) rfl (decide_eq_false fun q => (Ne.symm ne_GREATER_LESS_OR_EQUAL) (Value.ref.inj q)) (by decide) (by decide) ?_
    show Steps _ _ _ (T1.setTop (mkF m 7 #[vR s_LESS_OR_EQUAL] [])) _
    refine XS.aloadN X1.here hx rfl (hb hby d2_7) rfl rfl ?_
    show Steps _ _ _ (T1.setTop (mkF m 8 #[vR s_LESS_OR_EQUAL] [iR s_LESS_OR_EQUAL])) _
    refine st2 _ ?_
    show Steps _ _ _ (T2.setTop (mkF m 11 #[vR s_LESS_OR_EQUAL] [iR s_GREATER_OR_EQUAL, iR s_LESS_OR_EQUAL])) _
    refine Jvm.RoadKit.acmp (g := (mkF m 11 #[vR s_LESS_OR_EQUAL] [iR s_GREATER_OR_EQUAL, iR s_LESS_OR_EQUAL])) X2 hx rfl rfl rfl (pc0 := 11) (pc' := 18) (same := false) rfl (hb hby d2_11) rfl (decide_eq_false fun q => (Ne.symm ne_GREATER_OR_EQUAL_LESS_OR_EQUAL) (Value.ref.inj q)) (by decide) (by decide) ?_
    show Steps _ _ _ (T2.setTop (mkF m 18 #[vR s_LESS_OR_EQUAL] [])) _
    refine XS.iconst X2.here hx rfl (hb hby d2_18) ?_
    show Steps _ _ _ (T2.setTop (mkF m 19 #[vR s_LESS_OR_EQUAL] [iI 0])) _
    exact retN X2 hx (t := .boolean) Bd.returns (by simp) (hb hby d2_19) hr
  · show Q2_2 Z s_EQUAL s_GREATER s_GREATER_OR_EQUAL s_LESS s_LESS_OR_EQUAL h0 _ T2.heap _
    rw [e2]
    exact ⟨rfl, rfl, rfl⟩
theorem d2_14 : decode prog_77_method_7_code 14 = .ok (.iconst 1, 1) := by decide +kernel
theorem d2_15 : decode prog_77_method_7_code 15 = .ok (.goto 4, 3) := by decide +kernel
theorem ef_2_3 (m : MethodId) (x0 : Addr) : entryFrame m #[(.ref x0)] 1 = mkF m 0 #[.val (.ref x0)] [] := by first | (simp [entryFrame, mkF, argsToLocals, Value.category]; done) | rfl
def Q2_3 (Z : State) (s_EQUAL : Addr) (s_GREATER : Addr) (s_GREATER_OR_EQUAL : Addr) (s_LESS : Addr) (s_LESS_OR_EQUAL : Addr) (h0 : Heap) (v : Option Value) (h : Heap) (L : List Loc) : Prop := v = some (.int (1 : Int32)) ∧ L = [] ∧ h = h0
set_option maxRecDepth 65536 in
set_option maxHeartbeats 40000000 in
theorem rm2_3 (l : Launch) (Z : State) (a0 : Array Value) (hw : ∀ d ∈ tables_1, d.before a0 Z = true) (ws : List Jvm.Cond) (s_EQUAL : Addr) (s_GREATER : Addr) (s_GREATER_OR_EQUAL : Addr) (s_LESS : Addr) (s_LESS_OR_EQUAL : Addr) (h0 : Heap) (S_EQUAL : Sta Z h0 "com/example/columngen/columngen/workload/Predicate$Operator" "EQUAL" "Lcom/example/columngen/columngen/workload/Predicate$Operator;" (.ref s_EQUAL)) (E_EQUAL : Exa Z h0 s_EQUAL "com/example/columngen/columngen/workload/Predicate$Operator") (S_GREATER : Sta Z h0 "com/example/columngen/columngen/workload/Predicate$Operator" "GREATER" "Lcom/example/columngen/columngen/workload/Predicate$Operator;" (.ref s_GREATER)) (E_GREATER : Exa Z h0 s_GREATER "com/example/columngen/columngen/workload/Predicate$Operator") (F_ordinal_EQUAL : Fld Z h0 s_EQUAL "java/lang/Enum" "ordinal" "I" (.int (0 : Int32))) (F_ordinal_GREATER : Fld Z h0 s_GREATER "java/lang/Enum" "ordinal" "I" (.int (3 : Int32))) (S_GREATER_OR_EQUAL : Sta Z h0 "com/example/columngen/columngen/workload/Predicate$Operator" "GREATER_OR_EQUAL" "Lcom/example/columngen/columngen/workload/Predicate$Operator;" (.ref s_GREATER_OR_EQUAL)) (E_GREATER_OR_EQUAL : Exa Z h0 s_GREATER_OR_EQUAL "com/example/columngen/columngen/workload/Predicate$Operator") (F_ordinal_GREATER_OR_EQUAL : Fld Z h0 s_GREATER_OR_EQUAL "java/lang/Enum" "ordinal" "I" (.int (4 : Int32))) (S_LESS : Sta Z h0 "com/example/columngen/columngen/workload/Predicate$Operator" "LESS" "Lcom/example/columngen/columngen/workload/Predicate$Operator;" (.ref s_LESS)) (E_LESS : Exa Z h0 s_LESS "com/example/columngen/columngen/workload/Predicate$Operator") (F_ordinal_LESS : Fld Z h0 s_LESS "java/lang/Enum" "ordinal" "I" (.int (1 : Int32))) (S_LESS_OR_EQUAL : Sta Z h0 "com/example/columngen/columngen/workload/Predicate$Operator" "LESS_OR_EQUAL" "Lcom/example/columngen/columngen/workload/Predicate$Operator;" (.ref s_LESS_OR_EQUAL)) (E_LESS_OR_EQUAL : Exa Z h0 s_LESS_OR_EQUAL "com/example/columngen/columngen/workload/Predicate$Operator") (F_ordinal_LESS_OR_EQUAL : Fld Z h0 s_LESS_OR_EQUAL "java/lang/Enum" "ordinal" "I" (.int (2 : Int32))) :
    MetFree l (⟨"com/example/columngen/columngen/workload/Predicate$Operator", "isLowerBound", "()Z"⟩ : MethodName) (head1 (Jvm.Cond.code (⟨"com/example/columngen/columngen/workload/Predicate$Operator", "isLowerBound", "()Z"⟩ : MethodName) prog_77_method_7_code 1 (some .boolean) :: ws) ({ frames := 0, cells := 0, slots := 0, locals := 0 } : Room)) (fun a U => a = #[(.ref s_GREATER)] ∧ Z.Warmed39 U.vm ∧ U.heap = h0) (fun _ _ _ _ _ => True) (fun _ U o U' => ∃ v L, o = .returned v ∧ Q2_3 Z s_EQUAL s_GREATER s_GREATER_OR_EQUAL s_LESS s_LESS_OR_EQUAL h0 v U'.heap L ∧ FrameEnd U o U' L ({ frames := 0, cells := 0, slots := 0, locals := 0 } : Room).cells ({ frames := 0, cells := 0, slots := 0, locals := 0 } : Room).slots) := by
  refine MetFree.of_bodySF (plainFor_of_name pn_1) hisR ?_
  intro p e s m args below meth c s₁ Bd hml0 hP hK
  obtain ⟨rfl, hZ, hh⟩ := hP
  have hx := Bd.exec
  have hby := Bd.bytes
  have hml : c.maxLocals = 1 := hml0
  have hown : s.vm.findClass "com/example/columngen/columngen/workload/Predicate$Operator" = some m.cls := findClass_of_methodNamed Bd.named
  have hnm := (name_of_methodNamed Bd.named Bd.method).1
  have X0 : Stand p l e ({ frames := 0, cells := 0, slots := 0, locals := 0 } : Room) s m #[(.ref s_GREATER)] below meth c s₁ [] 0 0 := Stand.of_body Bd
  have e0 : s₁.heap = h0 := by rw [← hh, Bd.state]; rfl
  have pre0 : ∀ t, Steps p.tables e below (s₁.setTop (mkF m 0 #[.val (.ref s_GREATER)] [])) t → Steps p.tables e below (s₁.setTop (entryFrame m #[(.ref s_GREATER)] 1)) t := fun t k => castTop (ef_2_3 m s_GREATER) k
  have ne_EQUAL_GREATER : s_EQUAL ≠ s_GREATER := F_ordinal_EQUAL.ne F_ordinal_GREATER (by simp)
  have ne_EQUAL_GREATER_OR_EQUAL : s_EQUAL ≠ s_GREATER_OR_EQUAL := F_ordinal_EQUAL.ne F_ordinal_GREATER_OR_EQUAL (by simp)
  have ne_GREATER_GREATER_OR_EQUAL : s_GREATER ≠ s_GREATER_OR_EQUAL := F_ordinal_GREATER.ne F_ordinal_GREATER_OR_EQUAL (by simp)
  have ne_GREATER_LESS : s_GREATER ≠ s_LESS := F_ordinal_GREATER.ne F_ordinal_LESS (by simp)
  have ne_GREATER_LESS_OR_EQUAL : s_GREATER ≠ s_LESS_OR_EQUAL := F_ordinal_GREATER.ne F_ordinal_LESS_OR_EQUAL (by simp)
  have ne_GREATER_OR_EQUAL_LESS : s_GREATER_OR_EQUAL ≠ s_LESS := F_ordinal_GREATER_OR_EQUAL.ne F_ordinal_LESS (by simp)
  have ne_GREATER_OR_EQUAL_LESS_OR_EQUAL : s_GREATER_OR_EQUAL ≠ s_LESS_OR_EQUAL := F_ordinal_GREATER_OR_EQUAL.ne F_ordinal_LESS_OR_EQUAL (by simp)
  obtain ⟨T1, X1, e1, st1⟩ := getS2 X0 hx hZ hown (host := "") (Or.inl (hw _ (List.mem_of_getElem? (i := 13) rfl))) Via.refl e0 S_GREATER (g := (mkF m 1 #[vR s_GREATER] [iR s_GREATER])) rfl (hb hby d2_1)
  obtain ⟨fs, hr, hrun, hended, hW, hsame⟩ := X1.leave (v := some (.int (1 : Int32))) (fun h => by rw [Bd.returns] at h; cases h)
  refine ⟨_, _, pre0 _ ?_, hrun, hended, _, _, rfl, ?_, ⟨_, rfl⟩, hW, hsame.mono (by decide) (by decide)⟩
  · show Steps _ _ _ (s₁.setTop (mkF m 0 #[vR s_GREATER] [])) _
    refine XS.aloadN X0.here hx rfl (hb hby d2_0) rfl rfl ?_
    show Steps _ _ _ (s₁.setTop (mkF m 1 #[vR s_GREATER] [iR s_GREATER])) _
    refine st1 _ ?_
    show Steps _ _ _ (T1.setTop (mkF m 4 #[vR s_GREATER] [iR s_GREATER, iR s_GREATER])) _
    refine Jvm.RoadKit.acmp (g := (mkF m 4 #[vR s_GREATER] [iR s_GREATER, iR s_GREATER])) X1 hx rfl rfl rfl (pc0 := 4) (pc' := 14) (same := true) rfl (hb hby d2_4) rfl (decide_eq_true rfl) (by decide) (by decide) ?_
    show Steps _ _ _ (T1.setTop (mkF m 14 #[vR s_GREATER] [])) _
    refine XS.iconst X1.here hx rfl (hb hby d2_14) ?_
    show Steps _ _ _ (T1.setTop (mkF m 15 #[vR s_GREATER] [iI 1])) _
    refine XS.goto X1.here hx rfl (pc0 := 15) (pc' := 19) rfl (hb hby d2_15) (by decide) (by decide) ?_
    show Steps _ _ _ (T1.setTop (mkF m 19 #[vR s_GREATER] [iI 1])) _
    exact retN X1 hx (t := .boolean) Bd.returns (by simp) (hb hby d2_19) hr
  · show Q2_3 Z s_EQUAL s_GREATER s_GREATER_OR_EQUAL s_LESS s_LESS_OR_EQUAL h0 _ T1.heap _
    rw [e1]
    exact ⟨rfl, rfl, rfl⟩
theorem ef_2_4 (m : MethodId) (x0 : Addr) : entryFrame m #[(.ref x0)] 1 = mkF m 0 #[.val (.ref x0)] [] := by first | (simp [entryFrame, mkF, argsToLocals, Value.category]; done) | rfl
def Q2_4 (Z : State) (s_EQUAL : Addr) (s_GREATER : Addr) (s_GREATER_OR_EQUAL : Addr) (s_LESS : Addr) (s_LESS_OR_EQUAL : Addr) (h0 : Heap) (v : Option Value) (h : Heap) (L : List Loc) : Prop := v = some (.int (1 : Int32)) ∧ L = [] ∧ h = h0
set_option maxRecDepth 65536 in
set_option maxHeartbeats 40000000 in
theorem rm2_4 (l : Launch) (Z : State) (a0 : Array Value) (hw : ∀ d ∈ tables_1, d.before a0 Z = true) (ws : List Jvm.Cond) (s_EQUAL : Addr) (s_GREATER : Addr) (s_GREATER_OR_EQUAL : Addr) (s_LESS : Addr) (s_LESS_OR_EQUAL : Addr) (h0 : Heap) (S_EQUAL : Sta Z h0 "com/example/columngen/columngen/workload/Predicate$Operator" "EQUAL" "Lcom/example/columngen/columngen/workload/Predicate$Operator;" (.ref s_EQUAL)) (E_EQUAL : Exa Z h0 s_EQUAL "com/example/columngen/columngen/workload/Predicate$Operator") (S_GREATER : Sta Z h0 "com/example/columngen/columngen/workload/Predicate$Operator" "GREATER" "Lcom/example/columngen/columngen/workload/Predicate$Operator;" (.ref s_GREATER)) (E_GREATER : Exa Z h0 s_GREATER "com/example/columngen/columngen/workload/Predicate$Operator") (F_ordinal_EQUAL : Fld Z h0 s_EQUAL "java/lang/Enum" "ordinal" "I" (.int (0 : Int32))) (F_ordinal_GREATER : Fld Z h0 s_GREATER "java/lang/Enum" "ordinal" "I" (.int (3 : Int32))) (S_GREATER_OR_EQUAL : Sta Z h0 "com/example/columngen/columngen/workload/Predicate$Operator" "GREATER_OR_EQUAL" "Lcom/example/columngen/columngen/workload/Predicate$Operator;" (.ref s_GREATER_OR_EQUAL)) (E_GREATER_OR_EQUAL : Exa Z h0 s_GREATER_OR_EQUAL "com/example/columngen/columngen/workload/Predicate$Operator") (F_ordinal_GREATER_OR_EQUAL : Fld Z h0 s_GREATER_OR_EQUAL "java/lang/Enum" "ordinal" "I" (.int (4 : Int32))) (S_LESS : Sta Z h0 "com/example/columngen/columngen/workload/Predicate$Operator" "LESS" "Lcom/example/columngen/columngen/workload/Predicate$Operator;" (.ref s_LESS)) (E_LESS : Exa Z h0 s_LESS "com/example/columngen/columngen/workload/Predicate$Operator") (F_ordinal_LESS : Fld Z h0 s_LESS "java/lang/Enum" "ordinal" "I" (.int (1 : Int32))) (S_LESS_OR_EQUAL : Sta Z h0 "com/example/columngen/columngen/workload/Predicate$Operator" "LESS_OR_EQUAL" "Lcom/example/columngen/columngen/workload/Predicate$Operator;" (.ref s_LESS_OR_EQUAL)) (E_LESS_OR_EQUAL : Exa Z h0 s_LESS_OR_EQUAL "com/example/columngen/columngen/workload/Predicate$Operator") (F_ordinal_LESS_OR_EQUAL : Fld Z h0 s_LESS_OR_EQUAL "java/lang/Enum" "ordinal" "I" (.int (2 : Int32))) :
    MetFree l (⟨"com/example/columngen/columngen/workload/Predicate$Operator", "isLowerBound", "()Z"⟩ : MethodName) (head1 (Jvm.Cond.code (⟨"com/example/columngen/columngen/workload/Predicate$Operator", "isLowerBound", "()Z"⟩ : MethodName) prog_77_method_7_code 1 (some .boolean) :: ws) ({ frames := 0, cells := 0, slots := 0, locals := 0 } : Room)) (fun a U => a = #[(.ref s_GREATER_OR_EQUAL)] ∧ Z.Warmed39 U.vm ∧ U.heap = h0) (fun _ _ _ _ _ => True) (fun _ U o U' => ∃ v L, o = .returned v ∧ Q2_4 Z s_EQUAL s_GREATER s_GREATER_OR_EQUAL s_LESS s_LESS_OR_EQUAL h0 v U'.heap L ∧ FrameEnd U o U' L ({ frames := 0, cells := 0, slots := 0, locals := 0 } : Room).cells ({ frames := 0, cells := 0, slots := 0, locals := 0 } : Room).slots) := by
  refine MetFree.of_bodySF (plainFor_of_name pn_1) hisR ?_
  intro p e s m args below meth c s₁ Bd hml0 hP hK
  obtain ⟨rfl, hZ, hh⟩ := hP
  have hx := Bd.exec
  have hby := Bd.bytes
  have hml : c.maxLocals = 1 := hml0
  have hown : s.vm.findClass "com/example/columngen/columngen/workload/Predicate$Operator" = some m.cls := findClass_of_methodNamed Bd.named
  have hnm := (name_of_methodNamed Bd.named Bd.method).1
  have X0 : Stand p l e ({ frames := 0, cells := 0, slots := 0, locals := 0 } : Room) s m #[(.ref s_GREATER_OR_EQUAL)] below meth c s₁ [] 0 0 := Stand.of_body Bd
  have e0 : s₁.heap = h0 := by rw [← hh, Bd.state]; rfl
  have pre0 : ∀ t, Steps p.tables e below (s₁.setTop (mkF m 0 #[.val (.ref s_GREATER_OR_EQUAL)] [])) t → Steps p.tables e below (s₁.setTop (entryFrame m #[(.ref s_GREATER_OR_EQUAL)] 1)) t := fun t k => castTop (ef_2_4 m s_GREATER_OR_EQUAL) k
  have ne_EQUAL_GREATER : s_EQUAL ≠ s_GREATER := F_ordinal_EQUAL.ne F_ordinal_GREATER (by simp)
  have ne_EQUAL_GREATER_OR_EQUAL : s_EQUAL ≠ s_GREATER_OR_EQUAL := F_ordinal_EQUAL.ne F_ordinal_GREATER_OR_EQUAL (by simp)
  have ne_GREATER_GREATER_OR_EQUAL : s_GREATER ≠ s_GREATER_OR_EQUAL := F_ordinal_GREATER.ne F_ordinal_GREATER_OR_EQUAL (by simp)
  have ne_GREATER_LESS : s_GREATER ≠ s_LESS := F_ordinal_GREATER.ne F_ordinal_LESS (by simp)
  have ne_GREATER_LESS_OR_EQUAL : s_GREATER ≠ s_LESS_OR_EQUAL := F_ordinal_GREATER.ne F_ordinal_LESS_OR_EQUAL (by simp)
  have ne_GREATER_OR_EQUAL_LESS : s_GREATER_OR_EQUAL ≠ s_LESS := F_ordinal_GREATER_OR_EQUAL.ne F_ordinal_LESS (by simp)
  have ne_GREATER_OR_EQUAL_LESS_OR_EQUAL : s_GREATER_OR_EQUAL ≠ s_LESS_OR_EQUAL := F_ordinal_GREATER_OR_EQUAL.ne F_ordinal_LESS_OR_EQUAL (by simp)
  obtain ⟨T1, X1, e1, st1⟩ := getS2 X0 hx hZ hown (host := "") (Or.inl (hw _ (List.mem_of_getElem? (i := 13) rfl))) Via.refl e0 S_GREATER (g := (mkF m 1 #[vR s_GREATER_OR_EQUAL] [iR s_GREATER_OR_EQUAL])) rfl (hb hby d2_1)
  obtain ⟨T2, X2, e2, st2⟩ := getS2 X1 hx hZ hown (host := "") (Or.inl (hw _ (List.mem_of_getElem? (i := 15) rfl))) Via.refl e1 S_GREATER_OR_EQUAL (g := (mkF m 8 #[vR s_GREATER_OR_EQUAL] [iR s_GREATER_OR_EQUAL])) rfl (hb hby d2_8)
  obtain ⟨fs, hr, hrun, hended, hW, hsame⟩ := X2.leave (v := some (.int (1 : Int32))) (fun h => by rw [Bd.returns] at h; cases h)
  refine ⟨_, _, pre0 _ ?_, hrun, hended, _, _, rfl, ?_, ⟨_, rfl⟩, hW, hsame.mono (by decide) (by decide)⟩
  · show Steps _ _ _ (s₁.setTop (mkF m 0 #[vR s_GREATER_OR_EQUAL] [])) _
    refine XS.aloadN X0.here hx rfl (hb hby d2_0) rfl rfl ?_
    show Steps _ _ _ (s₁.setTop (mkF m 1 #[vR s_GREATER_OR_EQUAL] [iR s_GREATER_OR_EQUAL])) _
    refine st1 _ ?_
    show Steps _ _ _ (T1.setTop (mkF m 4 #[vR s_GREATER_OR_EQUAL] [iR s_GREATER, iR s_GREATER_OR_EQUAL])) _
    refine Jvm.RoadKit.acmp (g := (mkF m 4 #[vR s_GREATER_OR_EQUAL] [iR s_GREATER, iR s_GREATER_OR_EQUAL])) X1 hx rfl rfl rfl (pc0 := 4) (pc' := 7) (same := false) rfl (hb hby d2_4) rfl (decide_eq_false fun q => (Ne.symm ne_GREATER_GREATER_OR_EQUAL) (Value.ref.inj q)) (by decide) (by decide) ?_
    show Steps _ _ _ (T1.setTop (mkF m 7 #[vR s_GREATER_OR_EQUAL] [])) _
    refine XS.aloadN X1.here hx rfl (hb hby d2_7) rfl rfl ?_
    show Steps _ _ _ (T1.setTop (mkF m 8 #[vR s_GREATER_OR_EQUAL] [iR s_GREATER_OR_EQUAL])) _
    refine st2 _ ?_
    show Steps _ _ _ (T2.setTop (mkF m 11 #[vR s_GREATER_OR_EQUAL] [iR s_GREATER_OR_EQUAL, iR s_GREATER_OR_EQUAL])) _
    refine Jvm.RoadKit.acmp (g := (mkF m 11 #[vR s_GREATER_OR_EQUAL] [iR s_GREATER_OR_EQUAL, iR s_GREATER_OR_EQUAL])) X2 hx rfl rfl rfl (pc0 := 11) (pc' := 14) (same := true) rfl (hb hby d2_11) rfl (decide_eq_true rfl) (by decide) (by decide) ?_
    show Steps _ _ _ (T2.setTop (mkF m 14 #[vR s_GREATER_OR_EQUAL] [])) _
    refine XS.iconst X2.here hx rfl (hb hby d2_14) ?_
    show Steps _ _ _ (T2.setTop (mkF m 15 #[vR s_GREATER_OR_EQUAL] [iI 1])) _
    refine XS.goto X2.here hx rfl (pc0 := 15) (pc' := 19) rfl (hb hby d2_15) (by decide) (by decide) ?_
    show Steps _ _ _ (T2.setTop (mkF m 19 #[vR s_GREATER_OR_EQUAL] [iI 1])) _
    exact retN X2 hx (t := .boolean) Bd.returns (by simp) (hb hby d2_19) hr
  · show Q2_4 Z s_EQUAL s_GREATER s_GREATER_OR_EQUAL s_LESS s_LESS_OR_EQUAL h0 _ T2.heap _
    rw [e2]
    exact ⟨rfl, rfl, rfl⟩
theorem d4_0 : decode jdk_37_method_2_code 0 = .ok (.aload_n 0, 1) := by decide +kernel
theorem d4_1 : decode jdk_37_method_2_code 1 = .ok (.getfield 7, 3) := by decide +kernel
theorem d4_4 : decode jdk_37_method_2_code 4 = .ok (.ireturn, 1) := by decide +kernel
theorem pn_2 : plainName "java/lang/Enum" = true := by first | (simp [plainName, overriddenIn]; done) | decide +kernel
theorem ef_4_0 (m : MethodId) (x0 : Addr) : entryFrame m #[(.ref x0)] 1 = mkF m 0 #[.val (.ref x0)] [] := by first | (simp [entryFrame, mkF, argsToLocals, Value.category]; done) | rfl
def Q4_0 (Z : State) (s_EQUAL : Addr) (s_GREATER : Addr) (s_GREATER_OR_EQUAL : Addr) (s_LESS : Addr) (s_LESS_OR_EQUAL : Addr) (h0 : Heap) (v : Option Value) (h : Heap) (L : List Loc) : Prop := v = some (.int (0 : Int32)) ∧ L = [] ∧ h = h0
set_option maxRecDepth 65536 in
set_option maxHeartbeats 40000000 in
theorem rm4_0 (l : Launch) (Z : State) (a0 : Array Value) (hw : ∀ d ∈ tables_1, d.before a0 Z = true) (ws : List Jvm.Cond) (s_EQUAL : Addr) (s_GREATER : Addr) (s_GREATER_OR_EQUAL : Addr) (s_LESS : Addr) (s_LESS_OR_EQUAL : Addr) (h0 : Heap) (S_EQUAL : Sta Z h0 "com/example/columngen/columngen/workload/Predicate$Operator" "EQUAL" "Lcom/example/columngen/columngen/workload/Predicate$Operator;" (.ref s_EQUAL)) (E_EQUAL : Exa Z h0 s_EQUAL "com/example/columngen/columngen/workload/Predicate$Operator") (S_GREATER : Sta Z h0 "com/example/columngen/columngen/workload/Predicate$Operator" "GREATER" "Lcom/example/columngen/columngen/workload/Predicate$Operator;" (.ref s_GREATER)) (E_GREATER : Exa Z h0 s_GREATER "com/example/columngen/columngen/workload/Predicate$Operator") (F_ordinal_EQUAL : Fld Z h0 s_EQUAL "java/lang/Enum" "ordinal" "I" (.int (0 : Int32))) (F_ordinal_GREATER : Fld Z h0 s_GREATER "java/lang/Enum" "ordinal" "I" (.int (3 : Int32))) (S_GREATER_OR_EQUAL : Sta Z h0 "com/example/columngen/columngen/workload/Predicate$Operator" "GREATER_OR_EQUAL" "Lcom/example/columngen/columngen/workload/Predicate$Operator;" (.ref s_GREATER_OR_EQUAL)) (E_GREATER_OR_EQUAL : Exa Z h0 s_GREATER_OR_EQUAL "com/example/columngen/columngen/workload/Predicate$Operator") (F_ordinal_GREATER_OR_EQUAL : Fld Z h0 s_GREATER_OR_EQUAL "java/lang/Enum" "ordinal" "I" (.int (4 : Int32))) (S_LESS : Sta Z h0 "com/example/columngen/columngen/workload/Predicate$Operator" "LESS" "Lcom/example/columngen/columngen/workload/Predicate$Operator;" (.ref s_LESS)) (E_LESS : Exa Z h0 s_LESS "com/example/columngen/columngen/workload/Predicate$Operator") (F_ordinal_LESS : Fld Z h0 s_LESS "java/lang/Enum" "ordinal" "I" (.int (1 : Int32))) (S_LESS_OR_EQUAL : Sta Z h0 "com/example/columngen/columngen/workload/Predicate$Operator" "LESS_OR_EQUAL" "Lcom/example/columngen/columngen/workload/Predicate$Operator;" (.ref s_LESS_OR_EQUAL)) (E_LESS_OR_EQUAL : Exa Z h0 s_LESS_OR_EQUAL "com/example/columngen/columngen/workload/Predicate$Operator") (F_ordinal_LESS_OR_EQUAL : Fld Z h0 s_LESS_OR_EQUAL "java/lang/Enum" "ordinal" "I" (.int (2 : Int32))) :
    MetFree l (⟨"java/lang/Enum", "ordinal", "()I"⟩ : MethodName) (head1 (Jvm.Cond.code (⟨"java/lang/Enum", "ordinal", "()I"⟩ : MethodName) jdk_37_method_2_code 1 (some .int) :: ws) ({ frames := 0, cells := 0, slots := 0, locals := 0 } : Room)) (fun a U => a = #[(.ref s_EQUAL)] ∧ Z.Warmed39 U.vm ∧ U.heap = h0) (fun _ _ _ _ _ => True) (fun _ U o U' => ∃ v L, o = .returned v ∧ Q4_0 Z s_EQUAL s_GREATER s_GREATER_OR_EQUAL s_LESS s_LESS_OR_EQUAL h0 v U'.heap L ∧ FrameEnd U o U' L ({ frames := 0, cells := 0, slots := 0, locals := 0 } : Room).cells ({ frames := 0, cells := 0, slots := 0, locals := 0 } : Room).slots) := by
  refine MetFree.of_bodySF (plainFor_of_name pn_2) hisR ?_
  intro p e s m args below meth c s₁ Bd hml0 hP hK
  obtain ⟨rfl, hZ, hh⟩ := hP
  have hx := Bd.exec
  have hby := Bd.bytes
  have hml : c.maxLocals = 1 := hml0
  have hown : s.vm.findClass "java/lang/Enum" = some m.cls := findClass_of_methodNamed Bd.named
  have hnm := (name_of_methodNamed Bd.named Bd.method).1
  have X0 : Stand p l e ({ frames := 0, cells := 0, slots := 0, locals := 0 } : Room) s m #[(.ref s_EQUAL)] below meth c s₁ [] 0 0 := Stand.of_body Bd
  have e0 : s₁.heap = h0 := by rw [← hh, Bd.state]; rfl
  have pre0 : ∀ t, Steps p.tables e below (s₁.setTop (mkF m 0 #[.val (.ref s_EQUAL)] [])) t → Steps p.tables e below (s₁.setTop (entryFrame m #[(.ref s_EQUAL)] 1)) t := fun t k => castTop (ef_4_0 m s_EQUAL) k
  obtain ⟨T1, X1, e1, st1⟩ := getF X0 hx hZ hown (host := "") (Or.inl (hw _ (List.mem_of_getElem? (i := 29) rfl))) Via.refl e0 F_ordinal_EQUAL (g := (mkF m 1 #[vR s_EQUAL] [iR s_EQUAL])) rfl rfl (hb hby d4_1)
  obtain ⟨fs, hr, hrun, hended, hW, hsame⟩ := X1.leave (v := some (.int (0 : Int32))) (fun h => by rw [Bd.returns] at h; cases h)
  refine ⟨_, _, pre0 _ ?_, hrun, hended, _, _, rfl, ?_, ⟨_, rfl⟩, hW, hsame.mono (by decide) (by decide)⟩
  · show Steps _ _ _ (s₁.setTop (mkF m 0 #[vR s_EQUAL] [])) _
    refine XS.aloadN X0.here hx rfl (hb hby d4_0) rfl rfl ?_
    show Steps _ _ _ (s₁.setTop (mkF m 1 #[vR s_EQUAL] [iR s_EQUAL])) _
    refine st1 _ ?_
    show Steps _ _ _ (T1.setTop (mkF m 4 #[vR s_EQUAL] [iI 0])) _
    exact retI X1 hx Bd.returns (hb hby d4_4) hr
  · show Q4_0 Z s_EQUAL s_GREATER s_GREATER_OR_EQUAL s_LESS s_LESS_OR_EQUAL h0 _ T1.heap _
    rw [e1]
    exact ⟨rfl, rfl, rfl⟩
theorem ef_4_1 (m : MethodId) (x0 : Addr) : entryFrame m #[(.ref x0)] 1 = mkF m 0 #[.val (.ref x0)] [] := by first | (simp [entryFrame, mkF, argsToLocals, Value.category]; done) | rfl
def Q4_1 (Z : State) (s_EQUAL : Addr) (s_GREATER : Addr) (s_GREATER_OR_EQUAL : Addr) (s_LESS : Addr) (s_LESS_OR_EQUAL : Addr) (h0 : Heap) (v : Option Value) (h : Heap) (L : List Loc) : Prop := v = some (.int (1 : Int32)) ∧ L = [] ∧ h = h0
set_option maxRecDepth 65536 in
set_option maxHeartbeats 40000000 in
theorem rm4_1 (l : Launch) (Z : State) (a0 : Array Value) (hw : ∀ d ∈ tables_1, d.before a0 Z = true) (ws : List Jvm.Cond) (s_EQUAL : Addr) (s_GREATER : Addr) (s_GREATER_OR_EQUAL : Addr) (s_LESS : Addr) (s_LESS_OR_EQUAL : Addr) (h0 : Heap) (S_EQUAL : Sta Z h0 "com/example/columngen/columngen/workload/Predicate$Operator" "EQUAL" "Lcom/example/columngen/columngen/workload/Predicate$Operator;" (.ref s_EQUAL)) (E_EQUAL : Exa Z h0 s_EQUAL "com/example/columngen/columngen/workload/Predicate$Operator") (S_GREATER : Sta Z h0 "com/example/columngen/columngen/workload/Predicate$Operator" "GREATER" "Lcom/example/columngen/columngen/workload/Predicate$Operator;" (.ref s_GREATER)) (E_GREATER : Exa Z h0 s_GREATER "com/example/columngen/columngen/workload/Predicate$Operator") (F_ordinal_EQUAL : Fld Z h0 s_EQUAL "java/lang/Enum" "ordinal" "I" (.int (0 : Int32))) (F_ordinal_GREATER : Fld Z h0 s_GREATER "java/lang/Enum" "ordinal" "I" (.int (3 : Int32))) (S_GREATER_OR_EQUAL : Sta Z h0 "com/example/columngen/columngen/workload/Predicate$Operator" "GREATER_OR_EQUAL" "Lcom/example/columngen/columngen/workload/Predicate$Operator;" (.ref s_GREATER_OR_EQUAL)) (E_GREATER_OR_EQUAL : Exa Z h0 s_GREATER_OR_EQUAL "com/example/columngen/columngen/workload/Predicate$Operator") (F_ordinal_GREATER_OR_EQUAL : Fld Z h0 s_GREATER_OR_EQUAL "java/lang/Enum" "ordinal" "I" (.int (4 : Int32))) (S_LESS : Sta Z h0 "com/example/columngen/columngen/workload/Predicate$Operator" "LESS" "Lcom/example/columngen/columngen/workload/Predicate$Operator;" (.ref s_LESS)) (E_LESS : Exa Z h0 s_LESS "com/example/columngen/columngen/workload/Predicate$Operator") (F_ordinal_LESS : Fld Z h0 s_LESS "java/lang/Enum" "ordinal" "I" (.int (1 : Int32))) (S_LESS_OR_EQUAL : Sta Z h0 "com/example/columngen/columngen/workload/Predicate$Operator" "LESS_OR_EQUAL" "Lcom/example/columngen/columngen/workload/Predicate$Operator;" (.ref s_LESS_OR_EQUAL)) (E_LESS_OR_EQUAL : Exa Z h0 s_LESS_OR_EQUAL "com/example/columngen/columngen/workload/Predicate$Operator") (F_ordinal_LESS_OR_EQUAL : Fld Z h0 s_LESS_OR_EQUAL "java/lang/Enum" "ordinal" "I" (.int (2 : Int32))) :
    MetFree l (⟨"java/lang/Enum", "ordinal", "()I"⟩ : MethodName) (head1 (Jvm.Cond.code (⟨"java/lang/Enum", "ordinal", "()I"⟩ : MethodName) jdk_37_method_2_code 1 (some .int) :: ws) ({ frames := 0, cells := 0, slots := 0, locals := 0 } : Room)) (fun a U => a = #[(.ref s_LESS)] ∧ Z.Warmed39 U.vm ∧ U.heap = h0) (fun _ _ _ _ _ => True) (fun _ U o U' => ∃ v L, o = .returned v ∧ Q4_1 Z s_EQUAL s_GREATER s_GREATER_OR_EQUAL s_LESS s_LESS_OR_EQUAL h0 v U'.heap L ∧ FrameEnd U o U' L ({ frames := 0, cells := 0, slots := 0, locals := 0 } : Room).cells ({ frames := 0, cells := 0, slots := 0, locals := 0 } : Room).slots) := by
  refine MetFree.of_bodySF (plainFor_of_name pn_2) hisR ?_
  intro p e s m args below meth c s₁ Bd hml0 hP hK
  obtain ⟨rfl, hZ, hh⟩ := hP
  have hx := Bd.exec
  have hby := Bd.bytes
  have hml : c.maxLocals = 1 := hml0
  have hown : s.vm.findClass "java/lang/Enum" = some m.cls := findClass_of_methodNamed Bd.named
  have hnm := (name_of_methodNamed Bd.named Bd.method).1
  have X0 : Stand p l e ({ frames := 0, cells := 0, slots := 0, locals := 0 } : Room) s m #[(.ref s_LESS)] below meth c s₁ [] 0 0 := Stand.of_body Bd
  have e0 : s₁.heap = h0 := by rw [← hh, Bd.state]; rfl
  have pre0 : ∀ t, Steps p.tables e below (s₁.setTop (mkF m 0 #[.val (.ref s_LESS)] [])) t → Steps p.tables e below (s₁.setTop (entryFrame m #[(.ref s_LESS)] 1)) t := fun t k => castTop (ef_4_1 m s_LESS) k
  obtain ⟨T1, X1, e1, st1⟩ := getF X0 hx hZ hown (host := "") (Or.inl (hw _ (List.mem_of_getElem? (i := 29) rfl))) Via.refl e0 F_ordinal_LESS (g := (mkF m 1 #[vR s_LESS] [iR s_LESS])) rfl rfl (hb hby d4_1)
  obtain ⟨fs, hr, hrun, hended, hW, hsame⟩ := X1.leave (v := some (.int (1 : Int32))) (fun h => by rw [Bd.returns] at h; cases h)
  refine ⟨_, _, pre0 _ ?_, hrun, hended, _, _, rfl, ?_, ⟨_, rfl⟩, hW, hsame.mono (by decide) (by decide)⟩
  · show Steps _ _ _ (s₁.setTop (mkF m 0 #[vR s_LESS] [])) _
    refine XS.aloadN X0.here hx rfl (hb hby d4_0) rfl rfl ?_
    show Steps _ _ _ (s₁.setTop (mkF m 1 #[vR s_LESS] [iR s_LESS])) _
    refine st1 _ ?_
    show Steps _ _ _ (T1.setTop (mkF m 4 #[vR s_LESS] [iI 1])) _
    exact retI X1 hx Bd.returns (hb hby d4_4) hr
  · show Q4_1 Z s_EQUAL s_GREATER s_GREATER_OR_EQUAL s_LESS s_LESS_OR_EQUAL h0 _ T1.heap _
    rw [e1]
    exact ⟨rfl, rfl, rfl⟩
theorem ef_4_2 (m : MethodId) (x0 : Addr) : entryFrame m #[(.ref x0)] 1 = mkF m 0 #[.val (.ref x0)] [] := by first | (simp [entryFrame, mkF, argsToLocals, Value.category]; done) | rfl
def Q4_2 (Z : State) (s_EQUAL : Addr) (s_GREATER : Addr) (s_GREATER_OR_EQUAL : Addr) (s_LESS : Addr) (s_LESS_OR_EQUAL : Addr) (h0 : Heap) (v : Option Value) (h : Heap) (L : List Loc) : Prop := v = some (.int (2 : Int32)) ∧ L = [] ∧ h = h0
set_option maxRecDepth 65536 in
set_option maxHeartbeats 40000000 in
theorem rm4_2 (l : Launch) (Z : State) (a0 : Array Value) (hw : ∀ d ∈ tables_1, d.before a0 Z = true) (ws : List Jvm.Cond) (s_EQUAL : Addr) (s_GREATER : Addr) (s_GREATER_OR_EQUAL : Addr) (s_LESS : Addr) (s_LESS_OR_EQUAL : Addr) (h0 : Heap) (S_EQUAL : Sta Z h0 "com/example/columngen/columngen/workload/Predicate$Operator" "EQUAL" "Lcom/example/columngen/columngen/workload/Predicate$Operator;" (.ref s_EQUAL)) (E_EQUAL : Exa Z h0 s_EQUAL "com/example/columngen/columngen/workload/Predicate$Operator") (S_GREATER : Sta Z h0 "com/example/columngen/columngen/workload/Predicate$Operator" "GREATER" "Lcom/example/columngen/columngen/workload/Predicate$Operator;" (.ref s_GREATER)) (E_GREATER : Exa Z h0 s_GREATER "com/example/columngen/columngen/workload/Predicate$Operator") (F_ordinal_EQUAL : Fld Z h0 s_EQUAL "java/lang/Enum" "ordinal" "I" (.int (0 : Int32))) (F_ordinal_GREATER : Fld Z h0 s_GREATER "java/lang/Enum" "ordinal" "I" (.int (3 : Int32))) (S_GREATER_OR_EQUAL : Sta Z h0 "com/example/columngen/columngen/workload/Predicate$Operator" "GREATER_OR_EQUAL" "Lcom/example/columngen/columngen/workload/Predicate$Operator;" (.ref s_GREATER_OR_EQUAL)) (E_GREATER_OR_EQUAL : Exa Z h0 s_GREATER_OR_EQUAL "com/example/columngen/columngen/workload/Predicate$Operator") (F_ordinal_GREATER_OR_EQUAL : Fld Z h0 s_GREATER_OR_EQUAL "java/lang/Enum" "ordinal" "I" (.int (4 : Int32))) (S_LESS : Sta Z h0 "com/example/columngen/columngen/workload/Predicate$Operator" "LESS" "Lcom/example/columngen/columngen/workload/Predicate$Operator;" (.ref s_LESS)) (E_LESS : Exa Z h0 s_LESS "com/example/columngen/columngen/workload/Predicate$Operator") (F_ordinal_LESS : Fld Z h0 s_LESS "java/lang/Enum" "ordinal" "I" (.int (1 : Int32))) (S_LESS_OR_EQUAL : Sta Z h0 "com/example/columngen/columngen/workload/Predicate$Operator" "LESS_OR_EQUAL" "Lcom/example/columngen/columngen/workload/Predicate$Operator;" (.ref s_LESS_OR_EQUAL)) (E_LESS_OR_EQUAL : Exa Z h0 s_LESS_OR_EQUAL "com/example/columngen/columngen/workload/Predicate$Operator") (F_ordinal_LESS_OR_EQUAL : Fld Z h0 s_LESS_OR_EQUAL "java/lang/Enum" "ordinal" "I" (.int (2 : Int32))) :
    MetFree l (⟨"java/lang/Enum", "ordinal", "()I"⟩ : MethodName) (head1 (Jvm.Cond.code (⟨"java/lang/Enum", "ordinal", "()I"⟩ : MethodName) jdk_37_method_2_code 1 (some .int) :: ws) ({ frames := 0, cells := 0, slots := 0, locals := 0 } : Room)) (fun a U => a = #[(.ref s_LESS_OR_EQUAL)] ∧ Z.Warmed39 U.vm ∧ U.heap = h0) (fun _ _ _ _ _ => True) (fun _ U o U' => ∃ v L, o = .returned v ∧ Q4_2 Z s_EQUAL s_GREATER s_GREATER_OR_EQUAL s_LESS s_LESS_OR_EQUAL h0 v U'.heap L ∧ FrameEnd U o U' L ({ frames := 0, cells := 0, slots := 0, locals := 0 } : Room).cells ({ frames := 0, cells := 0, slots := 0, locals := 0 } : Room).slots) := by
  refine MetFree.of_bodySF (plainFor_of_name pn_2) hisR ?_
  intro p e s m args below meth c s₁ Bd hml0 hP hK
  obtain ⟨rfl, hZ, hh⟩ := hP
  have hx := Bd.exec
  have hby := Bd.bytes
  have hml : c.maxLocals = 1 := hml0
  have hown : s.vm.findClass "java/lang/Enum" = some m.cls := findClass_of_methodNamed Bd.named
  have hnm := (name_of_methodNamed Bd.named Bd.method).1
  have X0 : Stand p l e ({ frames := 0, cells := 0, slots := 0, locals := 0 } : Room) s m #[(.ref s_LESS_OR_EQUAL)] below meth c s₁ [] 0 0 := Stand.of_body Bd
  have e0 : s₁.heap = h0 := by rw [← hh, Bd.state]; rfl
  have pre0 : ∀ t, Steps p.tables e below (s₁.setTop (mkF m 0 #[.val (.ref s_LESS_OR_EQUAL)] [])) t → Steps p.tables e below (s₁.setTop (entryFrame m #[(.ref s_LESS_OR_EQUAL)] 1)) t := fun t k => castTop (ef_4_2 m s_LESS_OR_EQUAL) k
  obtain ⟨T1, X1, e1, st1⟩ := getF X0 hx hZ hown (host := "") (Or.inl (hw _ (List.mem_of_getElem? (i := 29) rfl))) Via.refl e0 F_ordinal_LESS_OR_EQUAL (g := (mkF m 1 #[vR s_LESS_OR_EQUAL] [iR s_LESS_OR_EQUAL])) rfl rfl (hb hby d4_1)
  obtain ⟨fs, hr, hrun, hended, hW, hsame⟩ := X1.leave (v := some (.int (2 : Int32))) (fun h => by rw [Bd.returns] at h; cases h)
  refine ⟨_, _, pre0 _ ?_, hrun, hended, _, _, rfl, ?_, ⟨_, rfl⟩, hW, hsame.mono (by decide) (by decide)⟩
  · show Steps _ _ _ (s₁.setTop (mkF m 0 #[vR s_LESS_OR_EQUAL] [])) _
    refine XS.aloadN X0.here hx rfl (hb hby d4_0) rfl rfl ?_
    show Steps _ _ _ (s₁.setTop (mkF m 1 #[vR s_LESS_OR_EQUAL] [iR s_LESS_OR_EQUAL])) _
    refine st1 _ ?_
    show Steps _ _ _ (T1.setTop (mkF m 4 #[vR s_LESS_OR_EQUAL] [iI 2])) _
    exact retI X1 hx Bd.returns (hb hby d4_4) hr
  · show Q4_2 Z s_EQUAL s_GREATER s_GREATER_OR_EQUAL s_LESS s_LESS_OR_EQUAL h0 _ T1.heap _
    rw [e1]
    exact ⟨rfl, rfl, rfl⟩
theorem ef_4_3 (m : MethodId) (x0 : Addr) : entryFrame m #[(.ref x0)] 1 = mkF m 0 #[.val (.ref x0)] [] := by first | (simp [entryFrame, mkF, argsToLocals, Value.category]; done) | rfl
def Q4_3 (Z : State) (s_EQUAL : Addr) (s_GREATER : Addr) (s_GREATER_OR_EQUAL : Addr) (s_LESS : Addr) (s_LESS_OR_EQUAL : Addr) (h0 : Heap) (v : Option Value) (h : Heap) (L : List Loc) : Prop := v = some (.int (3 : Int32)) ∧ L = [] ∧ h = h0
set_option maxRecDepth 65536 in
set_option maxHeartbeats 40000000 in
theorem rm4_3 (l : Launch) (Z : State) (a0 : Array Value) (hw : ∀ d ∈ tables_1, d.before a0 Z = true) (ws : List Jvm.Cond) (s_EQUAL : Addr) (s_GREATER : Addr) (s_GREATER_OR_EQUAL : Addr) (s_LESS : Addr) (s_LESS_OR_EQUAL : Addr) (h0 : Heap) (S_EQUAL : Sta Z h0 "com/example/columngen/columngen/workload/Predicate$Operator" "EQUAL" "Lcom/example/columngen/columngen/workload/Predicate$Operator;" (.ref s_EQUAL)) (E_EQUAL : Exa Z h0 s_EQUAL "com/example/columngen/columngen/workload/Predicate$Operator") (S_GREATER : Sta Z h0 "com/example/columngen/columngen/workload/Predicate$Operator" "GREATER" "Lcom/example/columngen/columngen/workload/Predicate$Operator;" (.ref s_GREATER)) (E_GREATER : Exa Z h0 s_GREATER "com/example/columngen/columngen/workload/Predicate$Operator") (F_ordinal_EQUAL : Fld Z h0 s_EQUAL "java/lang/Enum" "ordinal" "I" (.int (0 : Int32))) (F_ordinal_GREATER : Fld Z h0 s_GREATER "java/lang/Enum" "ordinal" "I" (.int (3 : Int32))) (S_GREATER_OR_EQUAL : Sta Z h0 "com/example/columngen/columngen/workload/Predicate$Operator" "GREATER_OR_EQUAL" "Lcom/example/columngen/columngen/workload/Predicate$Operator;" (.ref s_GREATER_OR_EQUAL)) (E_GREATER_OR_EQUAL : Exa Z h0 s_GREATER_OR_EQUAL "com/example/columngen/columngen/workload/Predicate$Operator") (F_ordinal_GREATER_OR_EQUAL : Fld Z h0 s_GREATER_OR_EQUAL "java/lang/Enum" "ordinal" "I" (.int (4 : Int32))) (S_LESS : Sta Z h0 "com/example/columngen/columngen/workload/Predicate$Operator" "LESS" "Lcom/example/columngen/columngen/workload/Predicate$Operator;" (.ref s_LESS)) (E_LESS : Exa Z h0 s_LESS "com/example/columngen/columngen/workload/Predicate$Operator") (F_ordinal_LESS : Fld Z h0 s_LESS "java/lang/Enum" "ordinal" "I" (.int (1 : Int32))) (S_LESS_OR_EQUAL : Sta Z h0 "com/example/columngen/columngen/workload/Predicate$Operator" "LESS_OR_EQUAL" "Lcom/example/columngen/columngen/workload/Predicate$Operator;" (.ref s_LESS_OR_EQUAL)) (E_LESS_OR_EQUAL : Exa Z h0 s_LESS_OR_EQUAL "com/example/columngen/columngen/workload/Predicate$Operator") (F_ordinal_LESS_OR_EQUAL : Fld Z h0 s_LESS_OR_EQUAL "java/lang/Enum" "ordinal" "I" (.int (2 : Int32))) :
    MetFree l (⟨"java/lang/Enum", "ordinal", "()I"⟩ : MethodName) (head1 (Jvm.Cond.code (⟨"java/lang/Enum", "ordinal", "()I"⟩ : MethodName) jdk_37_method_2_code 1 (some .int) :: ws) ({ frames := 0, cells := 0, slots := 0, locals := 0 } : Room)) (fun a U => a = #[(.ref s_GREATER)] ∧ Z.Warmed39 U.vm ∧ U.heap = h0) (fun _ _ _ _ _ => True) (fun _ U o U' => ∃ v L, o = .returned v ∧ Q4_3 Z s_EQUAL s_GREATER s_GREATER_OR_EQUAL s_LESS s_LESS_OR_EQUAL h0 v U'.heap L ∧ FrameEnd U o U' L ({ frames := 0, cells := 0, slots := 0, locals := 0 } : Room).cells ({ frames := 0, cells := 0, slots := 0, locals := 0 } : Room).slots) := by
  refine MetFree.of_bodySF (plainFor_of_name pn_2) hisR ?_
  intro p e s m args below meth c s₁ Bd hml0 hP hK
  obtain ⟨rfl, hZ, hh⟩ := hP
  have hx := Bd.exec
  have hby := Bd.bytes
  have hml : c.maxLocals = 1 := hml0
  have hown : s.vm.findClass "java/lang/Enum" = some m.cls := findClass_of_methodNamed Bd.named
  have hnm := (name_of_methodNamed Bd.named Bd.method).1
  have X0 : Stand p l e ({ frames := 0, cells := 0, slots := 0, locals := 0 } : Room) s m #[(.ref s_GREATER)] below meth c s₁ [] 0 0 := Stand.of_body Bd
  have e0 : s₁.heap = h0 := by rw [← hh, Bd.state]; rfl
  have pre0 : ∀ t, Steps p.tables e below (s₁.setTop (mkF m 0 #[.val (.ref s_GREATER)] [])) t → Steps p.tables e below (s₁.setTop (entryFrame m #[(.ref s_GREATER)] 1)) t := fun t k => castTop (ef_4_3 m s_GREATER) k
  obtain ⟨T1, X1, e1, st1⟩ := getF X0 hx hZ hown (host := "") (Or.inl (hw _ (List.mem_of_getElem? (i := 29) rfl))) Via.refl e0 F_ordinal_GREATER (g := (mkF m 1 #[vR s_GREATER] [iR s_GREATER])) rfl rfl (hb hby d4_1)
  obtain ⟨fs, hr, hrun, hended, hW, hsame⟩ := X1.leave (v := some (.int (3 : Int32))) (fun h => by rw [Bd.returns] at h; cases h)
  refine ⟨_, _, pre0 _ ?_, hrun, hended, _, _, rfl, ?_, ⟨_, rfl⟩, hW, hsame.mono (by decide) (by decide)⟩
  · show Steps _ _ _ (s₁.setTop (mkF m 0 #[vR s_GREATER] [])) _
    refine XS.aloadN X0.here hx rfl (hb hby d4_0) rfl rfl ?_
    show Steps _ _ _ (s₁.setTop (mkF m 1 #[vR s_GREATER] [iR s_GREATER])) _
    refine st1 _ ?_
    show Steps _ _ _ (T1.setTop (mkF m 4 #[vR s_GREATER] [iI 3])) _
    exact retI X1 hx Bd.returns (hb hby d4_4) hr
  · show Q4_3 Z s_EQUAL s_GREATER s_GREATER_OR_EQUAL s_LESS s_LESS_OR_EQUAL h0 _ T1.heap _
    rw [e1]
    exact ⟨rfl, rfl, rfl⟩
theorem ef_4_4 (m : MethodId) (x0 : Addr) : entryFrame m #[(.ref x0)] 1 = mkF m 0 #[.val (.ref x0)] [] := by first | (simp [entryFrame, mkF, argsToLocals, Value.category]; done) | rfl
def Q4_4 (Z : State) (s_EQUAL : Addr) (s_GREATER : Addr) (s_GREATER_OR_EQUAL : Addr) (s_LESS : Addr) (s_LESS_OR_EQUAL : Addr) (h0 : Heap) (v : Option Value) (h : Heap) (L : List Loc) : Prop := v = some (.int (4 : Int32)) ∧ L = [] ∧ h = h0
set_option maxRecDepth 65536 in
set_option maxHeartbeats 40000000 in
theorem rm4_4 (l : Launch) (Z : State) (a0 : Array Value) (hw : ∀ d ∈ tables_1, d.before a0 Z = true) (ws : List Jvm.Cond) (s_EQUAL : Addr) (s_GREATER : Addr) (s_GREATER_OR_EQUAL : Addr) (s_LESS : Addr) (s_LESS_OR_EQUAL : Addr) (h0 : Heap) (S_EQUAL : Sta Z h0 "com/example/columngen/columngen/workload/Predicate$Operator" "EQUAL" "Lcom/example/columngen/columngen/workload/Predicate$Operator;" (.ref s_EQUAL)) (E_EQUAL : Exa Z h0 s_EQUAL "com/example/columngen/columngen/workload/Predicate$Operator") (S_GREATER : Sta Z h0 "com/example/columngen/columngen/workload/Predicate$Operator" "GREATER" "Lcom/example/columngen/columngen/workload/Predicate$Operator;" (.ref s_GREATER)) (E_GREATER : Exa Z h0 s_GREATER "com/example/columngen/columngen/workload/Predicate$Operator") (F_ordinal_EQUAL : Fld Z h0 s_EQUAL "java/lang/Enum" "ordinal" "I" (.int (0 : Int32))) (F_ordinal_GREATER : Fld Z h0 s_GREATER "java/lang/Enum" "ordinal" "I" (.int (3 : Int32))) (S_GREATER_OR_EQUAL : Sta Z h0 "com/example/columngen/columngen/workload/Predicate$Operator" "GREATER_OR_EQUAL" "Lcom/example/columngen/columngen/workload/Predicate$Operator;" (.ref s_GREATER_OR_EQUAL)) (E_GREATER_OR_EQUAL : Exa Z h0 s_GREATER_OR_EQUAL "com/example/columngen/columngen/workload/Predicate$Operator") (F_ordinal_GREATER_OR_EQUAL : Fld Z h0 s_GREATER_OR_EQUAL "java/lang/Enum" "ordinal" "I" (.int (4 : Int32))) (S_LESS : Sta Z h0 "com/example/columngen/columngen/workload/Predicate$Operator" "LESS" "Lcom/example/columngen/columngen/workload/Predicate$Operator;" (.ref s_LESS)) (E_LESS : Exa Z h0 s_LESS "com/example/columngen/columngen/workload/Predicate$Operator") (F_ordinal_LESS : Fld Z h0 s_LESS "java/lang/Enum" "ordinal" "I" (.int (1 : Int32))) (S_LESS_OR_EQUAL : Sta Z h0 "com/example/columngen/columngen/workload/Predicate$Operator" "LESS_OR_EQUAL" "Lcom/example/columngen/columngen/workload/Predicate$Operator;" (.ref s_LESS_OR_EQUAL)) (E_LESS_OR_EQUAL : Exa Z h0 s_LESS_OR_EQUAL "com/example/columngen/columngen/workload/Predicate$Operator") (F_ordinal_LESS_OR_EQUAL : Fld Z h0 s_LESS_OR_EQUAL "java/lang/Enum" "ordinal" "I" (.int (2 : Int32))) :
    MetFree l (⟨"java/lang/Enum", "ordinal", "()I"⟩ : MethodName) (head1 (Jvm.Cond.code (⟨"java/lang/Enum", "ordinal", "()I"⟩ : MethodName) jdk_37_method_2_code 1 (some .int) :: ws) ({ frames := 0, cells := 0, slots := 0, locals := 0 } : Room)) (fun a U => a = #[(.ref s_GREATER_OR_EQUAL)] ∧ Z.Warmed39 U.vm ∧ U.heap = h0) (fun _ _ _ _ _ => True) (fun _ U o U' => ∃ v L, o = .returned v ∧ Q4_4 Z s_EQUAL s_GREATER s_GREATER_OR_EQUAL s_LESS s_LESS_OR_EQUAL h0 v U'.heap L ∧ FrameEnd U o U' L ({ frames := 0, cells := 0, slots := 0, locals := 0 } : Room).cells ({ frames := 0, cells := 0, slots := 0, locals := 0 } : Room).slots) := by
  refine MetFree.of_bodySF (plainFor_of_name pn_2) hisR ?_
  intro p e s m args below meth c s₁ Bd hml0 hP hK
  obtain ⟨rfl, hZ, hh⟩ := hP
  have hx := Bd.exec
  have hby := Bd.bytes
  have hml : c.maxLocals = 1 := hml0
  have hown : s.vm.findClass "java/lang/Enum" = some m.cls := findClass_of_methodNamed Bd.named
  have hnm := (name_of_methodNamed Bd.named Bd.method).1
  have X0 : Stand p l e ({ frames := 0, cells := 0, slots := 0, locals := 0 } : Room) s m #[(.ref s_GREATER_OR_EQUAL)] below meth c s₁ [] 0 0 := Stand.of_body Bd
  have e0 : s₁.heap = h0 := by rw [← hh, Bd.state]; rfl
  have pre0 : ∀ t, Steps p.tables e below (s₁.setTop (mkF m 0 #[.val (.ref s_GREATER_OR_EQUAL)] [])) t → Steps p.tables e below (s₁.setTop (entryFrame m #[(.ref s_GREATER_OR_EQUAL)] 1)) t := fun t k => castTop (ef_4_4 m s_GREATER_OR_EQUAL) k
  obtain ⟨T1, X1, e1, st1⟩ := getF X0 hx hZ hown (host := "") (Or.inl (hw _ (List.mem_of_getElem? (i := 29) rfl))) Via.refl e0 F_ordinal_GREATER_OR_EQUAL (g := (mkF m 1 #[vR s_GREATER_OR_EQUAL] [iR s_GREATER_OR_EQUAL])) rfl rfl (hb hby d4_1)
  obtain ⟨fs, hr, hrun, hended, hW, hsame⟩ := X1.leave (v := some (.int (4 : Int32))) (fun h => by rw [Bd.returns] at h; cases h)
  refine ⟨_, _, pre0 _ ?_, hrun, hended, _, _, rfl, ?_, ⟨_, rfl⟩, hW, hsame.mono (by decide) (by decide)⟩
  · show Steps _ _ _ (s₁.setTop (mkF m 0 #[vR s_GREATER_OR_EQUAL] [])) _
    refine XS.aloadN X0.here hx rfl (hb hby d4_0) rfl rfl ?_
    show Steps _ _ _ (s₁.setTop (mkF m 1 #[vR s_GREATER_OR_EQUAL] [iR s_GREATER_OR_EQUAL])) _
    refine st1 _ ?_
    show Steps _ _ _ (T1.setTop (mkF m 4 #[vR s_GREATER_OR_EQUAL] [iI 4])) _
    exact retI X1 hx Bd.returns (hb hby d4_4) hr
  · show Q4_4 Z s_EQUAL s_GREATER s_GREATER_OR_EQUAL s_LESS s_LESS_OR_EQUAL h0 _ T1.heap _
    rw [e1]
    exact ⟨rfl, rfl, rfl⟩
def own_adm_0 (p2 : Int32) : Int32 := (nar .boolean (if p2 = (0 : Int32) then (1 : Int32) else (0 : Int32)))
theorem d3_0 : decode prog_77_method_6_code 0 = .ok (.aload_n 0, 1) := by decide +kernel
theorem d3_1 : decode prog_77_method_6_code 1 = .ok (.invokevirtual 64, 3) := by decide +kernel
theorem d3_4 : decode prog_77_method_6_code 4 = .ok (.tableswitch 36 0 4 #[46, 58, 70, 82, 94], 36) := by decide +kernel
theorem d3_50 : decode prog_77_method_6_code 50 = .ok (.iload_n 1, 1) := by decide +kernel
theorem d3_51 : decode prog_77_method_6_code 51 = .ok (.ifCond .ne 7, 3) := by decide +kernel
theorem d3_54 : decode prog_77_method_6_code 54 = .ok (.iconst 1, 1) := by decide +kernel
theorem d3_55 : decode prog_77_method_6_code 55 = .ok (.goto 52, 3) := by decide +kernel
theorem d3_58 : decode prog_77_method_6_code 58 = .ok (.iconst 0, 1) := by decide +kernel
theorem d3_59 : decode prog_77_method_6_code 59 = .ok (.goto 48, 3) := by decide +kernel
theorem d3_107 : decode prog_77_method_6_code 107 = .ok (.ireturn, 1) := by decide +kernel
theorem ef_3_0 (m : MethodId) (x0 : Addr) (x1 : Int32) : entryFrame m #[(.ref x0), (.int x1)] 2 = mkF m 0 #[.val (.ref x0), .val (.int x1)] [] := by first | (simp [entryFrame, mkF, argsToLocals, Value.category]; done) | rfl
def Q3_0 (Z : State) (p2 : Int32) (s_EQUAL : Addr) (s_GREATER : Addr) (s_GREATER_OR_EQUAL : Addr) (s_LESS : Addr) (s_LESS_OR_EQUAL : Addr) (h0 : Heap) (v : Option Value) (h : Heap) (L : List Loc) : Prop := v = some (.int (own_adm_0 p2)) ∧ L = [] ∧ h = h0
set_option maxRecDepth 65536 in
set_option maxHeartbeats 40000000 in
theorem rm3_0 (l : Launch) (Z : State) (a0 : Array Value) (hw : ∀ d ∈ tables_1, d.before a0 Z = true) (ws : List Jvm.Cond) (p2 : Int32) (s_EQUAL : Addr) (s_GREATER : Addr) (s_GREATER_OR_EQUAL : Addr) (s_LESS : Addr) (s_LESS_OR_EQUAL : Addr) (h0 : Heap) (S_EQUAL : Sta Z h0 "com/example/columngen/columngen/workload/Predicate$Operator" "EQUAL" "Lcom/example/columngen/columngen/workload/Predicate$Operator;" (.ref s_EQUAL)) (E_EQUAL : Exa Z h0 s_EQUAL "com/example/columngen/columngen/workload/Predicate$Operator") (S_GREATER : Sta Z h0 "com/example/columngen/columngen/workload/Predicate$Operator" "GREATER" "Lcom/example/columngen/columngen/workload/Predicate$Operator;" (.ref s_GREATER)) (E_GREATER : Exa Z h0 s_GREATER "com/example/columngen/columngen/workload/Predicate$Operator") (F_ordinal_EQUAL : Fld Z h0 s_EQUAL "java/lang/Enum" "ordinal" "I" (.int (0 : Int32))) (F_ordinal_GREATER : Fld Z h0 s_GREATER "java/lang/Enum" "ordinal" "I" (.int (3 : Int32))) (S_GREATER_OR_EQUAL : Sta Z h0 "com/example/columngen/columngen/workload/Predicate$Operator" "GREATER_OR_EQUAL" "Lcom/example/columngen/columngen/workload/Predicate$Operator;" (.ref s_GREATER_OR_EQUAL)) (E_GREATER_OR_EQUAL : Exa Z h0 s_GREATER_OR_EQUAL "com/example/columngen/columngen/workload/Predicate$Operator") (F_ordinal_GREATER_OR_EQUAL : Fld Z h0 s_GREATER_OR_EQUAL "java/lang/Enum" "ordinal" "I" (.int (4 : Int32))) (S_LESS : Sta Z h0 "com/example/columngen/columngen/workload/Predicate$Operator" "LESS" "Lcom/example/columngen/columngen/workload/Predicate$Operator;" (.ref s_LESS)) (E_LESS : Exa Z h0 s_LESS "com/example/columngen/columngen/workload/Predicate$Operator") (F_ordinal_LESS : Fld Z h0 s_LESS "java/lang/Enum" "ordinal" "I" (.int (1 : Int32))) (S_LESS_OR_EQUAL : Sta Z h0 "com/example/columngen/columngen/workload/Predicate$Operator" "LESS_OR_EQUAL" "Lcom/example/columngen/columngen/workload/Predicate$Operator;" (.ref s_LESS_OR_EQUAL)) (E_LESS_OR_EQUAL : Exa Z h0 s_LESS_OR_EQUAL "com/example/columngen/columngen/workload/Predicate$Operator") (F_ordinal_LESS_OR_EQUAL : Fld Z h0 s_LESS_OR_EQUAL "java/lang/Enum" "ordinal" "I" (.int (2 : Int32))) :
    MetFree l (⟨"com/example/columngen/columngen/workload/Predicate$Operator", "admits", "(I)Z"⟩ : MethodName) (head1 (Jvm.Cond.code (⟨"com/example/columngen/columngen/workload/Predicate$Operator", "admits", "(I)Z"⟩ : MethodName) prog_77_method_6_code 2 (some .boolean) :: ws) ({ frames := 1, cells := 0, slots := 0, locals := 12 } : Room)) (fun a U => a = #[(.ref s_EQUAL), (.int p2)] ∧ Z.Warmed39 U.vm ∧ U.heap = h0) (fun _ _ _ _ _ => True) (fun _ U o U' => ∃ v L, o = .returned v ∧ Q3_0 Z p2 s_EQUAL s_GREATER s_GREATER_OR_EQUAL s_LESS s_LESS_OR_EQUAL h0 v U'.heap L ∧ FrameEnd U o U' L ({ frames := 1, cells := 0, slots := 0, locals := 12 } : Room).cells ({ frames := 1, cells := 0, slots := 0, locals := 12 } : Room).slots) := by
  refine MetFree.of_bodySF (plainFor_of_name pn_1) hisR ?_
  intro p e s m args below meth c s₁ Bd hml0 hP hK
  obtain ⟨rfl, hZ, hh⟩ := hP
  have hx := Bd.exec
  have hby := Bd.bytes
  have hml : c.maxLocals = 2 := hml0
  have hown : s.vm.findClass "com/example/columngen/columngen/workload/Predicate$Operator" = some m.cls := findClass_of_methodNamed Bd.named
  have hnm := (name_of_methodNamed Bd.named Bd.method).1
  have X0 : Stand p l e ({ frames := 1, cells := 0, slots := 0, locals := 12 } : Room) s m #[(.ref s_EQUAL), (.int p2)] below meth c s₁ [] 0 0 := Stand.of_body Bd
  have e0 : s₁.heap = h0 := by rw [← hh, Bd.state]; rfl
  have pre0 : ∀ t, Steps p.tables e below (s₁.setTop (mkF m 0 #[.val (.ref s_EQUAL), .val (.int p2)] [])) t → Steps p.tables e below (s₁.setTop (entryFrame m #[(.ref s_EQUAL), (.int p2)] 2)) t := fun t k => castTop (ef_3_0 m s_EQUAL p2) k
  obtain ⟨cq1, kq1, q1a, q1b, q1c⟩ := isOf hZ e0 E_EQUAL
  obtain ⟨_, _, ⟨T1, L1, k1, n1⟩, -, X1, ⟨Lc1, hQ1, l1, y1, z1⟩, st1⟩ := X0.virtualBackUp hx (x := (⟨"com/example/columngen/columngen/workload/Predicate$Operator", "ordinal", "()I"⟩ : MethodName)) (y := (⟨"java/lang/Enum", "ordinal", "()I"⟩ : MethodName)) (owner := "java/lang/Enum") hown (mvT hZ (hw _ (List.mem_of_getElem? (i := 22) rfl))) (mvT hZ (hw _ (List.mem_of_getElem? (i := 23) rfl))) (mvT hZ (hw _ (List.mem_of_getElem? (i := 24) rfl))) (by decide) (mvT hZ (hw _ (List.mem_of_getElem? (i := 26) rfl))) (mvT hZ (hw _ (List.mem_of_getElem? (i := 25) rfl))) (backOf (W := 0) (rm4_0 l Z a0 hw []  s_EQUAL s_GREATER s_GREATER_OR_EQUAL s_LESS s_LESS_OR_EQUAL h0 S_EQUAL E_EQUAL S_GREATER E_GREATER F_ordinal_EQUAL F_ordinal_GREATER S_GREATER_OR_EQUAL E_GREATER_OR_EQUAL F_ordinal_GREATER_OR_EQUAL S_LESS E_LESS F_ordinal_LESS S_LESS_OR_EQUAL E_LESS_OR_EQUAL F_ordinal_LESS_OR_EQUAL) hZ (hw _ (List.mem_of_getElem? (i := 28) rfl)) (hw _ (List.mem_of_getElem? (i := 27) rfl)) (by decide) (by decide)) q1a q1c (g := (mkF m 1 #[vR s_EQUAL, vI p2] [iR s_EQUAL])) rfl (by rw [hml]; rfl) (Steps.refl _) (argsL := []) (rest := []) (lenOf pd_0 rfl) rfl (by show 2 * 0 + _ ≤ _; exact Nat.le_of_eq rfl) (hb hby d3_1) (fun _ _ => ⟨rfl, e0, (by decide : 0 + 0 ≤ _), (by decide : 0 + 0 ≤ _)⟩)
  dsimp only [Pt.U, Pt.locs, Pt.cells, Pt.slots] at X1 l1 y1 z1 st1 hQ1
  subst l1 y1 z1
  obtain ⟨rfl, rfl, e1⟩ := hQ1
  try rw [List.append_nil] at X1
  obtain ⟨v2, hv2⟩ : ∃ z : Int32, z = (if p2 = (0 : Int32) then (1 : Int32) else (0 : Int32)) := ⟨_, rfl⟩
  obtain ⟨T3, X3, e3, st3⟩ : own_Mid X1 h0 (mkF m 51 #[vR s_EQUAL, vI p2] [iI p2]) (mkF m 107 #[vR s_EQUAL, vI p2] [iI v2]) := by
    by_cases hc4 : p2 = (0 : Int32)
    · refine ⟨T1, X1, e1, fun t kt => ?_⟩
      subst hv2
      simp only [if_pos hc4] at kt
      show Steps _ _ _ (T1.setTop (mkF m 51 #[vR s_EQUAL, vI p2] [iI p2])) _
      refine XS.ifNo X1.here hx rfl (hb hby d3_51) rfl ((if0 _ _).trans (teq hc4).2) ?_
      show Steps _ _ _ (T1.setTop (mkF m 54 #[vR s_EQUAL, vI p2] [])) _
      refine XS.iconst X1.here hx rfl (hb hby d3_54) ?_
      show Steps _ _ _ (T1.setTop (mkF m 55 #[vR s_EQUAL, vI p2] [iI 1])) _
      refine XS.goto X1.here hx rfl (pc0 := 55) (pc' := 107) rfl (hb hby d3_55) (by decide) (by decide) ?_
      exact kt
    · refine ⟨T1, X1, e1, fun t kt => ?_⟩
      subst hv2
      simp only [if_neg hc4] at kt
      show Steps _ _ _ (T1.setTop (mkF m 51 #[vR s_EQUAL, vI p2] [iI p2])) _
      refine XS.ifYes X1.here hx rfl (pc0 := 51) (pc' := 58) rfl (hb hby d3_51) rfl ((if0 _ _).trans (feq hc4).2) (by decide) (by decide) ?_
      show Steps _ _ _ (T1.setTop (mkF m 58 #[vR s_EQUAL, vI p2] [])) _
      refine XS.iconst X1.here hx rfl (hb hby d3_58) ?_
      show Steps _ _ _ (T1.setTop (mkF m 59 #[vR s_EQUAL, vI p2] [iI 0])) _
      refine XS.goto X1.here hx rfl (pc0 := 59) (pc' := 107) rfl (hb hby d3_59) (by decide) (by decide) ?_
      exact kt
  obtain ⟨fs, hr, hrun, hended, hW, hsame⟩ := X3.leave (v := some (.int (nar .boolean v2))) (fun h => by rw [Bd.returns] at h; cases h)
  refine ⟨_, _, pre0 _ ?_, hrun, hended, _, _, rfl, ?_, ⟨_, rfl⟩, hW, hsame.mono (by decide) (by decide)⟩
  · show Steps _ _ _ (s₁.setTop (mkF m 0 #[vR s_EQUAL, vI p2] [])) _
    refine XS.aloadN X0.here hx rfl (hb hby d3_0) rfl rfl ?_
    show Steps _ _ _ (s₁.setTop (mkF m 1 #[vR s_EQUAL, vI p2] [iR s_EQUAL])) _
    refine st1.trans ?_
    show Steps _ _ _ (T1.setTop (mkF m 4 #[vR s_EQUAL, vI p2] [iI 0])) _
    refine XS.tswIn X1.here hx rfl (pc0 := 4) (pc' := 50) rfl (hb hby d3_4) rfl (by decide) (o := 46) rfl (by decide) (by decide) ?_
    show Steps _ _ _ (T1.setTop (mkF m 50 #[vR s_EQUAL, vI p2] [])) _
    refine XS.iloadN X1.here hx rfl (hb hby d3_50) rfl ?_
    show Steps _ _ _ (T1.setTop (mkF m 51 #[vR s_EQUAL, vI p2] [iI p2])) _
    refine st3 _ ?_
    show Steps _ _ _ (T3.setTop (mkF m 107 #[vR s_EQUAL, vI p2] [iI v2])) _
    exact retN X3 hx (t := .boolean) Bd.returns (by simp) (hb hby d3_107) hr
  · show Q3_0 Z p2 s_EQUAL s_GREATER s_GREATER_OR_EQUAL s_LESS s_LESS_OR_EQUAL h0 _ T3.heap _
    rw [e3]
    exact ⟨by subst hv2; first | rfl | (simp only [own_adm_0]; done) | (simp only [own_adm_0]; rfl) | (simp only [own_adm_0, nar] ; first | rfl | (simp; done) | decide), rfl, rfl⟩
def own_adm_1 (p2 : Int32) : Int32 := (nar .boolean (if p2 < (0 : Int32) then (1 : Int32) else (0 : Int32)))
theorem d3_62 : decode prog_77_method_6_code 62 = .ok (.iload_n 1, 1) := by decide +kernel
theorem d3_63 : decode prog_77_method_6_code 63 = .ok (.ifCond .ge 7, 3) := by decide +kernel
theorem d3_66 : decode prog_77_method_6_code 66 = .ok (.iconst 1, 1) := by decide +kernel
theorem d3_67 : decode prog_77_method_6_code 67 = .ok (.goto 40, 3) := by decide +kernel
theorem d3_70 : decode prog_77_method_6_code 70 = .ok (.iconst 0, 1) := by decide +kernel
theorem d3_71 : decode prog_77_method_6_code 71 = .ok (.goto 36, 3) := by decide +kernel
theorem ef_3_1 (m : MethodId) (x0 : Addr) (x1 : Int32) : entryFrame m #[(.ref x0), (.int x1)] 2 = mkF m 0 #[.val (.ref x0), .val (.int x1)] [] := by first | (simp [entryFrame, mkF, argsToLocals, Value.category]; done) | rfl
def Q3_1 (Z : State) (p2 : Int32) (s_EQUAL : Addr) (s_GREATER : Addr) (s_GREATER_OR_EQUAL : Addr) (s_LESS : Addr) (s_LESS_OR_EQUAL : Addr) (h0 : Heap) (v : Option Value) (h : Heap) (L : List Loc) : Prop := v = some (.int (own_adm_1 p2)) ∧ L = [] ∧ h = h0
set_option maxRecDepth 65536 in
set_option maxHeartbeats 40000000 in
theorem rm3_1 (l : Launch) (Z : State) (a0 : Array Value) (hw : ∀ d ∈ tables_1, d.before a0 Z = true) (ws : List Jvm.Cond) (p2 : Int32) (s_EQUAL : Addr) (s_GREATER : Addr) (s_GREATER_OR_EQUAL : Addr) (s_LESS : Addr) (s_LESS_OR_EQUAL : Addr) (h0 : Heap) (S_EQUAL : Sta Z h0 "com/example/columngen/columngen/workload/Predicate$Operator" "EQUAL" "Lcom/example/columngen/columngen/workload/Predicate$Operator;" (.ref s_EQUAL)) (E_EQUAL : Exa Z h0 s_EQUAL "com/example/columngen/columngen/workload/Predicate$Operator") (S_GREATER : Sta Z h0 "com/example/columngen/columngen/workload/Predicate$Operator" "GREATER" "Lcom/example/columngen/columngen/workload/Predicate$Operator;" (.ref s_GREATER)) (E_GREATER : Exa Z h0 s_GREATER "com/example/columngen/columngen/workload/Predicate$Operator") (F_ordinal_EQUAL : Fld Z h0 s_EQUAL "java/lang/Enum" "ordinal" "I" (.int (0 : Int32))) (F_ordinal_GREATER : Fld Z h0 s_GREATER "java/lang/Enum" "ordinal" "I" (.int (3 : Int32))) (S_GREATER_OR_EQUAL : Sta Z h0 "com/example/columngen/columngen/workload/Predicate$Operator" "GREATER_OR_EQUAL" "Lcom/example/columngen/columngen/workload/Predicate$Operator;" (.ref s_GREATER_OR_EQUAL)) (E_GREATER_OR_EQUAL : Exa Z h0 s_GREATER_OR_EQUAL "com/example/columngen/columngen/workload/Predicate$Operator") (F_ordinal_GREATER_OR_EQUAL : Fld Z h0 s_GREATER_OR_EQUAL "java/lang/Enum" "ordinal" "I" (.int (4 : Int32))) (S_LESS : Sta Z h0 "com/example/columngen/columngen/workload/Predicate$Operator" "LESS" "Lcom/example/columngen/columngen/workload/Predicate$Operator;" (.ref s_LESS)) (E_LESS : Exa Z h0 s_LESS "com/example/columngen/columngen/workload/Predicate$Operator") (F_ordinal_LESS : Fld Z h0 s_LESS "java/lang/Enum" "ordinal" "I" (.int (1 : Int32))) (S_LESS_OR_EQUAL : Sta Z h0 "com/example/columngen/columngen/workload/Predicate$Operator" "LESS_OR_EQUAL" "Lcom/example/columngen/columngen/workload/Predicate$Operator;" (.ref s_LESS_OR_EQUAL)) (E_LESS_OR_EQUAL : Exa Z h0 s_LESS_OR_EQUAL "com/example/columngen/columngen/workload/Predicate$Operator") (F_ordinal_LESS_OR_EQUAL : Fld Z h0 s_LESS_OR_EQUAL "java/lang/Enum" "ordinal" "I" (.int (2 : Int32))) :
    MetFree l (⟨"com/example/columngen/columngen/workload/Predicate$Operator", "admits", "(I)Z"⟩ : MethodName) (head1 (Jvm.Cond.code (⟨"com/example/columngen/columngen/workload/Predicate$Operator", "admits", "(I)Z"⟩ : MethodName) prog_77_method_6_code 2 (some .boolean) :: ws) ({ frames := 1, cells := 0, slots := 0, locals := 12 } : Room)) (fun a U => a = #[(.ref s_LESS), (.int p2)] ∧ Z.Warmed39 U.vm ∧ U.heap = h0) (fun _ _ _ _ _ => True) (fun _ U o U' => ∃ v L, o = .returned v ∧ Q3_1 Z p2 s_EQUAL s_GREATER s_GREATER_OR_EQUAL s_LESS s_LESS_OR_EQUAL h0 v U'.heap L ∧ FrameEnd U o U' L ({ frames := 1, cells := 0, slots := 0, locals := 12 } : Room).cells ({ frames := 1, cells := 0, slots := 0, locals := 12 } : Room).slots) := by
  refine MetFree.of_bodySF (plainFor_of_name pn_1) hisR ?_
  intro p e s m args below meth c s₁ Bd hml0 hP hK
  obtain ⟨rfl, hZ, hh⟩ := hP
  have hx := Bd.exec
  have hby := Bd.bytes
  have hml : c.maxLocals = 2 := hml0
  have hown : s.vm.findClass "com/example/columngen/columngen/workload/Predicate$Operator" = some m.cls := findClass_of_methodNamed Bd.named
  have hnm := (name_of_methodNamed Bd.named Bd.method).1
  have X0 : Stand p l e ({ frames := 1, cells := 0, slots := 0, locals := 12 } : Room) s m #[(.ref s_LESS), (.int p2)] below meth c s₁ [] 0 0 := Stand.of_body Bd
  have e0 : s₁.heap = h0 := by rw [← hh, Bd.state]; rfl
  have pre0 : ∀ t, Steps p.tables e below (s₁.setTop (mkF m 0 #[.val (.ref s_LESS), .val (.int p2)] [])) t → Steps p.tables e below (s₁.setTop (entryFrame m #[(.ref s_LESS), (.int p2)] 2)) t := fun t k => castTop (ef_3_1 m s_LESS p2) k
  obtain ⟨cq1, kq1, q1a, q1b, q1c⟩ := isOf hZ e0 E_LESS
  obtain ⟨_, _, ⟨T1, L1, k1, n1⟩, -, X1, ⟨Lc1, hQ1, l1, y1, z1⟩, st1⟩ := X0.virtualBackUp hx (x := (⟨"com/example/columngen/columngen/workload/Predicate$Operator", "ordinal", "()I"⟩ : MethodName)) (y := (⟨"java/lang/Enum", "ordinal", "()I"⟩ : MethodName)) (owner := "java/lang/Enum") hown (mvT hZ (hw _ (List.mem_of_getElem? (i := 22) rfl))) (mvT hZ (hw _ (List.mem_of_getElem? (i := 23) rfl))) (mvT hZ (hw _ (List.mem_of_getElem? (i := 24) rfl))) (by decide) (mvT hZ (hw _ (List.mem_of_getElem? (i := 26) rfl))) (mvT hZ (hw _ (List.mem_of_getElem? (i := 25) rfl))) (backOf (W := 0) (rm4_1 l Z a0 hw []  s_EQUAL s_GREATER s_GREATER_OR_EQUAL s_LESS s_LESS_OR_EQUAL h0 S_EQUAL E_EQUAL S_GREATER E_GREATER F_ordinal_EQUAL F_ordinal_GREATER S_GREATER_OR_EQUAL E_GREATER_OR_EQUAL F_ordinal_GREATER_OR_EQUAL S_LESS E_LESS F_ordinal_LESS S_LESS_OR_EQUAL E_LESS_OR_EQUAL F_ordinal_LESS_OR_EQUAL) hZ (hw _ (List.mem_of_getElem? (i := 28) rfl)) (hw _ (List.mem_of_getElem? (i := 27) rfl)) (by decide) (by decide)) q1a q1c (g := (mkF m 1 #[vR s_LESS, vI p2] [iR s_LESS])) rfl (by rw [hml]; rfl) (Steps.refl _) (argsL := []) (rest := []) (lenOf pd_0 rfl) rfl (by show 2 * 0 + _ ≤ _; exact Nat.le_of_eq rfl) (hb hby d3_1) (fun _ _ => ⟨rfl, e0, (by decide : 0 + 0 ≤ _), (by decide : 0 + 0 ≤ _)⟩)
  dsimp only [Pt.U, Pt.locs, Pt.cells, Pt.slots] at X1 l1 y1 z1 st1 hQ1
  subst l1 y1 z1
  obtain ⟨rfl, rfl, e1⟩ := hQ1
  try rw [List.append_nil] at X1
  obtain ⟨v2, hv2⟩ : ∃ z : Int32, z = (if p2 < (0 : Int32) then (1 : Int32) else (0 : Int32)) := ⟨_, rfl⟩
  obtain ⟨T3, X3, e3, st3⟩ : own_Mid X1 h0 (mkF m 63 #[vR s_LESS, vI p2] [iI p2]) (mkF m 107 #[vR s_LESS, vI p2] [iI v2]) := by
    by_cases hc4 : p2 < (0 : Int32)
    · refine ⟨T1, X1, e1, fun t kt => ?_⟩
      subst hv2
      simp only [if_pos hc4] at kt
      show Steps _ _ _ (T1.setTop (mkF m 63 #[vR s_LESS, vI p2] [iI p2])) _
      refine XS.ifNo X1.here hx rfl (hb hby d3_63) rfl ((if0 _ _).trans (tlt hc4).2.1) ?_
      show Steps _ _ _ (T1.setTop (mkF m 66 #[vR s_LESS, vI p2] [])) _
      refine XS.iconst X1.here hx rfl (hb hby d3_66) ?_
      show Steps _ _ _ (T1.setTop (mkF m 67 #[vR s_LESS, vI p2] [iI 1])) _
      refine XS.goto X1.here hx rfl (pc0 := 67) (pc' := 107) rfl (hb hby d3_67) (by decide) (by decide) ?_
      exact kt
    · refine ⟨T1, X1, e1, fun t kt => ?_⟩
      subst hv2
      simp only [if_neg hc4] at kt
      show Steps _ _ _ (T1.setTop (mkF m 63 #[vR s_LESS, vI p2] [iI p2])) _
      refine XS.ifYes X1.here hx rfl (pc0 := 63) (pc' := 70) rfl (hb hby d3_63) rfl ((if0 _ _).trans (flt hc4).2.1) (by decide) (by decide) ?_
      show Steps _ _ _ (T1.setTop (mkF m 70 #[vR s_LESS, vI p2] [])) _
      refine XS.iconst X1.here hx rfl (hb hby d3_70) ?_
      show Steps _ _ _ (T1.setTop (mkF m 71 #[vR s_LESS, vI p2] [iI 0])) _
      refine XS.goto X1.here hx rfl (pc0 := 71) (pc' := 107) rfl (hb hby d3_71) (by decide) (by decide) ?_
      exact kt
  obtain ⟨fs, hr, hrun, hended, hW, hsame⟩ := X3.leave (v := some (.int (nar .boolean v2))) (fun h => by rw [Bd.returns] at h; cases h)
  refine ⟨_, _, pre0 _ ?_, hrun, hended, _, _, rfl, ?_, ⟨_, rfl⟩, hW, hsame.mono (by decide) (by decide)⟩
  · show Steps _ _ _ (s₁.setTop (mkF m 0 #[vR s_LESS, vI p2] [])) _
    refine XS.aloadN X0.here hx rfl (hb hby d3_0) rfl rfl ?_
    show Steps _ _ _ (s₁.setTop (mkF m 1 #[vR s_LESS, vI p2] [iR s_LESS])) _
    refine st1.trans ?_
    show Steps _ _ _ (T1.setTop (mkF m 4 #[vR s_LESS, vI p2] [iI 1])) _
    refine XS.tswIn X1.here hx rfl (pc0 := 4) (pc' := 62) rfl (hb hby d3_4) rfl (by decide) (o := 58) rfl (by decide) (by decide) ?_
    show Steps _ _ _ (T1.setTop (mkF m 62 #[vR s_LESS, vI p2] [])) _
    refine XS.iloadN X1.here hx rfl (hb hby d3_62) rfl ?_
    show Steps _ _ _ (T1.setTop (mkF m 63 #[vR s_LESS, vI p2] [iI p2])) _
    refine st3 _ ?_
    show Steps _ _ _ (T3.setTop (mkF m 107 #[vR s_LESS, vI p2] [iI v2])) _
    exact retN X3 hx (t := .boolean) Bd.returns (by simp) (hb hby d3_107) hr
  · show Q3_1 Z p2 s_EQUAL s_GREATER s_GREATER_OR_EQUAL s_LESS s_LESS_OR_EQUAL h0 _ T3.heap _
    rw [e3]
    exact ⟨by subst hv2; first | rfl | (simp only [own_adm_1]; done) | (simp only [own_adm_1]; rfl) | (simp only [own_adm_1, nar] ; first | rfl | (simp; done) | decide), rfl, rfl⟩
def own_adm_2 (p2 : Int32) : Int32 := (nar .boolean (if (0 : Int32) < p2 then (0 : Int32) else (1 : Int32)))
theorem d3_74 : decode prog_77_method_6_code 74 = .ok (.iload_n 1, 1) := by decide +kernel
theorem d3_75 : decode prog_77_method_6_code 75 = .ok (.ifCond .gt 7, 3) := by decide +kernel
theorem d3_78 : decode prog_77_method_6_code 78 = .ok (.iconst 1, 1) := by decide +kernel
theorem d3_79 : decode prog_77_method_6_code 79 = .ok (.goto 28, 3) := by decide +kernel
theorem d3_82 : decode prog_77_method_6_code 82 = .ok (.iconst 0, 1) := by decide +kernel
theorem d3_83 : decode prog_77_method_6_code 83 = .ok (.goto 24, 3) := by decide +kernel
theorem ef_3_2 (m : MethodId) (x0 : Addr) (x1 : Int32) : entryFrame m #[(.ref x0), (.int x1)] 2 = mkF m 0 #[.val (.ref x0), .val (.int x1)] [] := by first | (simp [entryFrame, mkF, argsToLocals, Value.category]; done) | rfl
def Q3_2 (Z : State) (p2 : Int32) (s_EQUAL : Addr) (s_GREATER : Addr) (s_GREATER_OR_EQUAL : Addr) (s_LESS : Addr) (s_LESS_OR_EQUAL : Addr) (h0 : Heap) (v : Option Value) (h : Heap) (L : List Loc) : Prop := v = some (.int (own_adm_2 p2)) ∧ L = [] ∧ h = h0
set_option maxRecDepth 65536 in
set_option maxHeartbeats 40000000 in
theorem rm3_2 (l : Launch) (Z : State) (a0 : Array Value) (hw : ∀ d ∈ tables_1, d.before a0 Z = true) (ws : List Jvm.Cond) (p2 : Int32) (s_EQUAL : Addr) (s_GREATER : Addr) (s_GREATER_OR_EQUAL : Addr) (s_LESS : Addr) (s_LESS_OR_EQUAL : Addr) (h0 : Heap) (S_EQUAL : Sta Z h0 "com/example/columngen/columngen/workload/Predicate$Operator" "EQUAL" "Lcom/example/columngen/columngen/workload/Predicate$Operator;" (.ref s_EQUAL)) (E_EQUAL : Exa Z h0 s_EQUAL "com/example/columngen/columngen/workload/Predicate$Operator") (S_GREATER : Sta Z h0 "com/example/columngen/columngen/workload/Predicate$Operator" "GREATER" "Lcom/example/columngen/columngen/workload/Predicate$Operator;" (.ref s_GREATER)) (E_GREATER : Exa Z h0 s_GREATER "com/example/columngen/columngen/workload/Predicate$Operator") (F_ordinal_EQUAL : Fld Z h0 s_EQUAL "java/lang/Enum" "ordinal" "I" (.int (0 : Int32))) (F_ordinal_GREATER : Fld Z h0 s_GREATER "java/lang/Enum" "ordinal" "I" (.int (3 : Int32))) (S_GREATER_OR_EQUAL : Sta Z h0 "com/example/columngen/columngen/workload/Predicate$Operator" "GREATER_OR_EQUAL" "Lcom/example/columngen/columngen/workload/Predicate$Operator;" (.ref s_GREATER_OR_EQUAL)) (E_GREATER_OR_EQUAL : Exa Z h0 s_GREATER_OR_EQUAL "com/example/columngen/columngen/workload/Predicate$Operator") (F_ordinal_GREATER_OR_EQUAL : Fld Z h0 s_GREATER_OR_EQUAL "java/lang/Enum" "ordinal" "I" (.int (4 : Int32))) (S_LESS : Sta Z h0 "com/example/columngen/columngen/workload/Predicate$Operator" "LESS" "Lcom/example/columngen/columngen/workload/Predicate$Operator;" (.ref s_LESS)) (E_LESS : Exa Z h0 s_LESS "com/example/columngen/columngen/workload/Predicate$Operator") (F_ordinal_LESS : Fld Z h0 s_LESS "java/lang/Enum" "ordinal" "I" (.int (1 : Int32))) (S_LESS_OR_EQUAL : Sta Z h0 "com/example/columngen/columngen/workload/Predicate$Operator" "LESS_OR_EQUAL" "Lcom/example/columngen/columngen/workload/Predicate$Operator;" (.ref s_LESS_OR_EQUAL)) (E_LESS_OR_EQUAL : Exa Z h0 s_LESS_OR_EQUAL "com/example/columngen/columngen/workload/Predicate$Operator") (F_ordinal_LESS_OR_EQUAL : Fld Z h0 s_LESS_OR_EQUAL "java/lang/Enum" "ordinal" "I" (.int (2 : Int32))) :
    MetFree l (⟨"com/example/columngen/columngen/workload/Predicate$Operator", "admits", "(I)Z"⟩ : MethodName) (head1 (Jvm.Cond.code (⟨"com/example/columngen/columngen/workload/Predicate$Operator", "admits", "(I)Z"⟩ : MethodName) prog_77_method_6_code 2 (some .boolean) :: ws) ({ frames := 1, cells := 0, slots := 0, locals := 12 } : Room)) (fun a U => a = #[(.ref s_LESS_OR_EQUAL), (.int p2)] ∧ Z.Warmed39 U.vm ∧ U.heap = h0) (fun _ _ _ _ _ => True) (fun _ U o U' => ∃ v L, o = .returned v ∧ Q3_2 Z p2 s_EQUAL s_GREATER s_GREATER_OR_EQUAL s_LESS s_LESS_OR_EQUAL h0 v U'.heap L ∧ FrameEnd U o U' L ({ frames := 1, cells := 0, slots := 0, locals := 12 } : Room).cells ({ frames := 1, cells := 0, slots := 0, locals := 12 } : Room).slots) := by
  refine MetFree.of_bodySF (plainFor_of_name pn_1) hisR ?_
  intro p e s m args below meth c s₁ Bd hml0 hP hK
  obtain ⟨rfl, hZ, hh⟩ := hP
  have hx := Bd.exec
  have hby := Bd.bytes
  have hml : c.maxLocals = 2 := hml0
  have hown : s.vm.findClass "com/example/columngen/columngen/workload/Predicate$Operator" = some m.cls := findClass_of_methodNamed Bd.named
  have hnm := (name_of_methodNamed Bd.named Bd.method).1
  have X0 : Stand p l e ({ frames := 1, cells := 0, slots := 0, locals := 12 } : Room) s m #[(.ref s_LESS_OR_EQUAL), (.int p2)] below meth c s₁ [] 0 0 := Stand.of_body Bd
  have e0 : s₁.heap = h0 := by rw [← hh, Bd.state]; rfl
  have pre0 : ∀ t, Steps p.tables e below (s₁.setTop (mkF m 0 #[.val (.ref s_LESS_OR_EQUAL), .val (.int p2)] [])) t → Steps p.tables e below (s₁.setTop (entryFrame m #[(.ref s_LESS_OR_EQUAL), (.int p2)] 2)) t := fun t k => castTop (ef_3_2 m s_LESS_OR_EQUAL p2) k
  obtain ⟨cq1, kq1, q1a, q1b, q1c⟩ := isOf hZ e0 E_LESS_OR_EQUAL
  obtain ⟨_, _, ⟨T1, L1, k1, n1⟩, -, X1, ⟨Lc1, hQ1, l1, y1, z1⟩, st1⟩ := X0.virtualBackUp hx (x := (⟨"com/example/columngen/columngen/workload/Predicate$Operator", "ordinal", "()I"⟩ : MethodName)) (y := (⟨"java/lang/Enum", "ordinal", "()I"⟩ : MethodName)) (owner := "java/lang/Enum") hown (mvT hZ (hw _ (List.mem_of_getElem? (i := 22) rfl))) (mvT hZ (hw _ (List.mem_of_getElem? (i := 23) rfl))) (mvT hZ (hw _ (List.mem_of_getElem? (i := 24) rfl))) (by decide) (mvT hZ (hw _ (List.mem_of_getElem? (i := 26) rfl))) (mvT hZ (hw _ (List.mem_of_getElem? (i := 25) rfl))) (backOf (W := 0) (rm4_2 l Z a0 hw []  s_EQUAL s_GREATER s_GREATER_OR_EQUAL s_LESS s_LESS_OR_EQUAL h0 S_EQUAL E_EQUAL S_GREATER E_GREATER F_ordinal_EQUAL F_ordinal_GREATER S_GREATER_OR_EQUAL E_GREATER_OR_EQUAL F_ordinal_GREATER_OR_EQUAL S_LESS E_LESS F_ordinal_LESS S_LESS_OR_EQUAL E_LESS_OR_EQUAL F_ordinal_LESS_OR_EQUAL) hZ (hw _ (List.mem_of_getElem? (i := 28) rfl)) (hw _ (List.mem_of_getElem? (i := 27) rfl)) (by decide) (by decide)) q1a q1c (g := (mkF m 1 #[vR s_LESS_OR_EQUAL, vI p2] [iR s_LESS_OR_EQUAL])) rfl (by rw [hml]; rfl) (Steps.refl _) (argsL := []) (rest := []) (lenOf pd_0 rfl) rfl (by show 2 * 0 + _ ≤ _; exact Nat.le_of_eq rfl) (hb hby d3_1) (fun _ _ => ⟨rfl, e0, (by decide : 0 + 0 ≤ _), (by decide : 0 + 0 ≤ _)⟩)
  dsimp only [Pt.U, Pt.locs, Pt.cells, Pt.slots] at X1 l1 y1 z1 st1 hQ1
  subst l1 y1 z1
  obtain ⟨rfl, rfl, e1⟩ := hQ1
  try rw [List.append_nil] at X1
  obtain ⟨v2, hv2⟩ : ∃ z : Int32, z = (if (0 : Int32) < p2 then (0 : Int32) else (1 : Int32)) := ⟨_, rfl⟩
  obtain ⟨T3, X3, e3, st3⟩ : own_Mid X1 h0 (mkF m 75 #[vR s_LESS_OR_EQUAL, vI p2] [iI p2]) (mkF m 107 #[vR s_LESS_OR_EQUAL, vI p2] [iI v2]) := by
    by_cases hc4 : (0 : Int32) < p2
    · refine ⟨T1, X1, e1, fun t kt => ?_⟩
      subst hv2
      simp only [if_pos hc4] at kt
      show Steps _ _ _ (T1.setTop (mkF m 75 #[vR s_LESS_OR_EQUAL, vI p2] [iI p2])) _
      refine XS.ifYes X1.here hx rfl (pc0 := 75) (pc' := 82) rfl (hb hby d3_75) rfl ((if0 _ _).trans (tlt hc4).2.2.1) (by decide) (by decide) ?_
      show Steps _ _ _ (T1.setTop (mkF m 82 #[vR s_LESS_OR_EQUAL, vI p2] [])) _
      refine XS.iconst X1.here hx rfl (hb hby d3_82) ?_
      show Steps _ _ _ (T1.setTop (mkF m 83 #[vR s_LESS_OR_EQUAL, vI p2] [iI 0])) _
      refine XS.goto X1.here hx rfl (pc0 := 83) (pc' := 107) rfl (hb hby d3_83) (by decide) (by decide) ?_
      exact kt
    · refine ⟨T1, X1, e1, fun t kt => ?_⟩
      subst hv2
      simp only [if_neg hc4] at kt
      show Steps _ _ _ (T1.setTop (mkF m 75 #[vR s_LESS_OR_EQUAL, vI p2] [iI p2])) _
      refine XS.ifNo X1.here hx rfl (hb hby d3_75) rfl ((if0 _ _).trans (flt hc4).2.2.1) ?_
      show Steps _ _ _ (T1.setTop (mkF m 78 #[vR s_LESS_OR_EQUAL, vI p2] [])) _
      refine XS.iconst X1.here hx rfl (hb hby d3_78) ?_
      show Steps _ _ _ (T1.setTop (mkF m 79 #[vR s_LESS_OR_EQUAL, vI p2] [iI 1])) _
      refine XS.goto X1.here hx rfl (pc0 := 79) (pc' := 107) rfl (hb hby d3_79) (by decide) (by decide) ?_
      exact kt
  obtain ⟨fs, hr, hrun, hended, hW, hsame⟩ := X3.leave (v := some (.int (nar .boolean v2))) (fun h => by rw [Bd.returns] at h; cases h)
  refine ⟨_, _, pre0 _ ?_, hrun, hended, _, _, rfl, ?_, ⟨_, rfl⟩, hW, hsame.mono (by decide) (by decide)⟩
  · show Steps _ _ _ (s₁.setTop (mkF m 0 #[vR s_LESS_OR_EQUAL, vI p2] [])) _
    refine XS.aloadN X0.here hx rfl (hb hby d3_0) rfl rfl ?_
    show Steps _ _ _ (s₁.setTop (mkF m 1 #[vR s_LESS_OR_EQUAL, vI p2] [iR s_LESS_OR_EQUAL])) _
    refine st1.trans ?_
    show Steps _ _ _ (T1.setTop (mkF m 4 #[vR s_LESS_OR_EQUAL, vI p2] [iI 2])) _
    refine XS.tswIn X1.here hx rfl (pc0 := 4) (pc' := 74) rfl (hb hby d3_4) rfl (by decide) (o := 70) rfl (by decide) (by decide) ?_
    show Steps _ _ _ (T1.setTop (mkF m 74 #[vR s_LESS_OR_EQUAL, vI p2] [])) _
    refine XS.iloadN X1.here hx rfl (hb hby d3_74) rfl ?_
    show Steps _ _ _ (T1.setTop (mkF m 75 #[vR s_LESS_OR_EQUAL, vI p2] [iI p2])) _
    refine st3 _ ?_
    show Steps _ _ _ (T3.setTop (mkF m 107 #[vR s_LESS_OR_EQUAL, vI p2] [iI v2])) _
    exact retN X3 hx (t := .boolean) Bd.returns (by simp) (hb hby d3_107) hr
  · show Q3_2 Z p2 s_EQUAL s_GREATER s_GREATER_OR_EQUAL s_LESS s_LESS_OR_EQUAL h0 _ T3.heap _
    rw [e3]
    exact ⟨by subst hv2; first | rfl | (simp only [own_adm_2]; done) | (simp only [own_adm_2]; rfl) | (simp only [own_adm_2, nar] ; first | rfl | (simp; done) | decide), rfl, rfl⟩
def own_adm_3 (p2 : Int32) : Int32 := (nar .boolean (if (0 : Int32) < p2 then (1 : Int32) else (0 : Int32)))
theorem d3_86 : decode prog_77_method_6_code 86 = .ok (.iload_n 1, 1) := by decide +kernel
theorem d3_87 : decode prog_77_method_6_code 87 = .ok (.ifCond .le 7, 3) := by decide +kernel
theorem d3_90 : decode prog_77_method_6_code 90 = .ok (.iconst 1, 1) := by decide +kernel
theorem d3_91 : decode prog_77_method_6_code 91 = .ok (.goto 16, 3) := by decide +kernel
theorem d3_94 : decode prog_77_method_6_code 94 = .ok (.iconst 0, 1) := by decide +kernel
theorem d3_95 : decode prog_77_method_6_code 95 = .ok (.goto 12, 3) := by decide +kernel
theorem ef_3_3 (m : MethodId) (x0 : Addr) (x1 : Int32) : entryFrame m #[(.ref x0), (.int x1)] 2 = mkF m 0 #[.val (.ref x0), .val (.int x1)] [] := by first | (simp [entryFrame, mkF, argsToLocals, Value.category]; done) | rfl
def Q3_3 (Z : State) (p2 : Int32) (s_EQUAL : Addr) (s_GREATER : Addr) (s_GREATER_OR_EQUAL : Addr) (s_LESS : Addr) (s_LESS_OR_EQUAL : Addr) (h0 : Heap) (v : Option Value) (h : Heap) (L : List Loc) : Prop := v = some (.int (own_adm_3 p2)) ∧ L = [] ∧ h = h0
set_option maxRecDepth 65536 in
set_option maxHeartbeats 40000000 in
theorem rm3_3 (l : Launch) (Z : State) (a0 : Array Value) (hw : ∀ d ∈ tables_1, d.before a0 Z = true) (ws : List Jvm.Cond) (p2 : Int32) (s_EQUAL : Addr) (s_GREATER : Addr) (s_GREATER_OR_EQUAL : Addr) (s_LESS : Addr) (s_LESS_OR_EQUAL : Addr) (h0 : Heap) (S_EQUAL : Sta Z h0 "com/example/columngen/columngen/workload/Predicate$Operator" "EQUAL" "Lcom/example/columngen/columngen/workload/Predicate$Operator;" (.ref s_EQUAL)) (E_EQUAL : Exa Z h0 s_EQUAL "com/example/columngen/columngen/workload/Predicate$Operator") (S_GREATER : Sta Z h0 "com/example/columngen/columngen/workload/Predicate$Operator" "GREATER" "Lcom/example/columngen/columngen/workload/Predicate$Operator;" (.ref s_GREATER)) (E_GREATER : Exa Z h0 s_GREATER "com/example/columngen/columngen/workload/Predicate$Operator") (F_ordinal_EQUAL : Fld Z h0 s_EQUAL "java/lang/Enum" "ordinal" "I" (.int (0 : Int32))) (F_ordinal_GREATER : Fld Z h0 s_GREATER "java/lang/Enum" "ordinal" "I" (.int (3 : Int32))) (S_GREATER_OR_EQUAL : Sta Z h0 "com/example/columngen/columngen/workload/Predicate$Operator" "GREATER_OR_EQUAL" "Lcom/example/columngen/columngen/workload/Predicate$Operator;" (.ref s_GREATER_OR_EQUAL)) (E_GREATER_OR_EQUAL : Exa Z h0 s_GREATER_OR_EQUAL "com/example/columngen/columngen/workload/Predicate$Operator") (F_ordinal_GREATER_OR_EQUAL : Fld Z h0 s_GREATER_OR_EQUAL "java/lang/Enum" "ordinal" "I" (.int (4 : Int32))) (S_LESS : Sta Z h0 "com/example/columngen/columngen/workload/Predicate$Operator" "LESS" "Lcom/example/columngen/columngen/workload/Predicate$Operator;" (.ref s_LESS)) (E_LESS : Exa Z h0 s_LESS "com/example/columngen/columngen/workload/Predicate$Operator") (F_ordinal_LESS : Fld Z h0 s_LESS "java/lang/Enum" "ordinal" "I" (.int (1 : Int32))) (S_LESS_OR_EQUAL : Sta Z h0 "com/example/columngen/columngen/workload/Predicate$Operator" "LESS_OR_EQUAL" "Lcom/example/columngen/columngen/workload/Predicate$Operator;" (.ref s_LESS_OR_EQUAL)) (E_LESS_OR_EQUAL : Exa Z h0 s_LESS_OR_EQUAL "com/example/columngen/columngen/workload/Predicate$Operator") (F_ordinal_LESS_OR_EQUAL : Fld Z h0 s_LESS_OR_EQUAL "java/lang/Enum" "ordinal" "I" (.int (2 : Int32))) :
    MetFree l (⟨"com/example/columngen/columngen/workload/Predicate$Operator", "admits", "(I)Z"⟩ : MethodName) (head1 (Jvm.Cond.code (⟨"com/example/columngen/columngen/workload/Predicate$Operator", "admits", "(I)Z"⟩ : MethodName) prog_77_method_6_code 2 (some .boolean) :: ws) ({ frames := 1, cells := 0, slots := 0, locals := 12 } : Room)) (fun a U => a = #[(.ref s_GREATER), (.int p2)] ∧ Z.Warmed39 U.vm ∧ U.heap = h0) (fun _ _ _ _ _ => True) (fun _ U o U' => ∃ v L, o = .returned v ∧ Q3_3 Z p2 s_EQUAL s_GREATER s_GREATER_OR_EQUAL s_LESS s_LESS_OR_EQUAL h0 v U'.heap L ∧ FrameEnd U o U' L ({ frames := 1, cells := 0, slots := 0, locals := 12 } : Room).cells ({ frames := 1, cells := 0, slots := 0, locals := 12 } : Room).slots) := by
  refine MetFree.of_bodySF (plainFor_of_name pn_1) hisR ?_
  intro p e s m args below meth c s₁ Bd hml0 hP hK
  obtain ⟨rfl, hZ, hh⟩ := hP
  have hx := Bd.exec
  have hby := Bd.bytes
  have hml : c.maxLocals = 2 := hml0
  have hown : s.vm.findClass "com/example/columngen/columngen/workload/Predicate$Operator" = some m.cls := findClass_of_methodNamed Bd.named
  have hnm := (name_of_methodNamed Bd.named Bd.method).1
  have X0 : Stand p l e ({ frames := 1, cells := 0, slots := 0, locals := 12 } : Room) s m #[(.ref s_GREATER), (.int p2)] below meth c s₁ [] 0 0 := Stand.of_body Bd
  have e0 : s₁.heap = h0 := by rw [← hh, Bd.state]; rfl
  have pre0 : ∀ t, Steps p.tables e below (s₁.setTop (mkF m 0 #[.val (.ref s_GREATER), .val (.int p2)] [])) t → Steps p.tables e below (s₁.setTop (entryFrame m #[(.ref s_GREATER), (.int p2)] 2)) t := fun t k => castTop (ef_3_3 m s_GREATER p2) k
  obtain ⟨cq1, kq1, q1a, q1b, q1c⟩ := isOf hZ e0 E_GREATER
  obtain ⟨_, _, ⟨T1, L1, k1, n1⟩, -, X1, ⟨Lc1, hQ1, l1, y1, z1⟩, st1⟩ := X0.virtualBackUp hx (x := (⟨"com/example/columngen/columngen/workload/Predicate$Operator", "ordinal", "()I"⟩ : MethodName)) (y := (⟨"java/lang/Enum", "ordinal", "()I"⟩ : MethodName)) (owner := "java/lang/Enum") hown (mvT hZ (hw _ (List.mem_of_getElem? (i := 22) rfl))) (mvT hZ (hw _ (List.mem_of_getElem? (i := 23) rfl))) (mvT hZ (hw _ (List.mem_of_getElem? (i := 24) rfl))) (by decide) (mvT hZ (hw _ (List.mem_of_getElem? (i := 26) rfl))) (mvT hZ (hw _ (List.mem_of_getElem? (i := 25) rfl))) (backOf (W := 0) (rm4_3 l Z a0 hw []  s_EQUAL s_GREATER s_GREATER_OR_EQUAL s_LESS s_LESS_OR_EQUAL h0 S_EQUAL E_EQUAL S_GREATER E_GREATER F_ordinal_EQUAL F_ordinal_GREATER S_GREATER_OR_EQUAL E_GREATER_OR_EQUAL F_ordinal_GREATER_OR_EQUAL S_LESS E_LESS F_ordinal_LESS S_LESS_OR_EQUAL E_LESS_OR_EQUAL F_ordinal_LESS_OR_EQUAL) hZ (hw _ (List.mem_of_getElem? (i := 28) rfl)) (hw _ (List.mem_of_getElem? (i := 27) rfl)) (by decide) (by decide)) q1a q1c (g := (mkF m 1 #[vR s_GREATER, vI p2] [iR s_GREATER])) rfl (by rw [hml]; rfl) (Steps.refl _) (argsL := []) (rest := []) (lenOf pd_0 rfl) rfl (by show 2 * 0 + _ ≤ _; exact Nat.le_of_eq rfl) (hb hby d3_1) (fun _ _ => ⟨rfl, e0, (by decide : 0 + 0 ≤ _), (by decide : 0 + 0 ≤ _)⟩)
  dsimp only [Pt.U, Pt.locs, Pt.cells, Pt.slots] at X1 l1 y1 z1 st1 hQ1
  subst l1 y1 z1
  obtain ⟨rfl, rfl, e1⟩ := hQ1
  try rw [List.append_nil] at X1
  obtain ⟨v2, hv2⟩ : ∃ z : Int32, z = (if (0 : Int32) < p2 then (1 : Int32) else (0 : Int32)) := ⟨_, rfl⟩
  obtain ⟨T3, X3, e3, st3⟩ : own_Mid X1 h0 (mkF m 87 #[vR s_GREATER, vI p2] [iI p2]) (mkF m 107 #[vR s_GREATER, vI p2] [iI v2]) := by
    by_cases hc4 : (0 : Int32) < p2
    · refine ⟨T1, X1, e1, fun t kt => ?_⟩
      subst hv2
      simp only [if_pos hc4] at kt
      show Steps _ _ _ (T1.setTop (mkF m 87 #[vR s_GREATER, vI p2] [iI p2])) _
      refine XS.ifNo X1.here hx rfl (hb hby d3_87) rfl ((if0 _ _).trans (tlt hc4).2.2.2) ?_
      show Steps _ _ _ (T1.setTop (mkF m 90 #[vR s_GREATER, vI p2] [])) _
      refine XS.iconst X1.here hx rfl (hb hby d3_90) ?_
      show Steps _ _ _ (T1.setTop (mkF m 91 #[vR s_GREATER, vI p2] [iI 1])) _
      refine XS.goto X1.here hx rfl (pc0 := 91) (pc' := 107) rfl (hb hby d3_91) (by decide) (by decide) ?_
      exact kt
    · refine ⟨T1, X1, e1, fun t kt => ?_⟩
      subst hv2
      simp only [if_neg hc4] at kt
      show Steps _ _ _ (T1.setTop (mkF m 87 #[vR s_GREATER, vI p2] [iI p2])) _
      refine XS.ifYes X1.here hx rfl (pc0 := 87) (pc' := 94) rfl (hb hby d3_87) rfl ((if0 _ _).trans (flt hc4).2.2.2) (by decide) (by decide) ?_
      show Steps _ _ _ (T1.setTop (mkF m 94 #[vR s_GREATER, vI p2] [])) _
      refine XS.iconst X1.here hx rfl (hb hby d3_94) ?_
      show Steps _ _ _ (T1.setTop (mkF m 95 #[vR s_GREATER, vI p2] [iI 0])) _
      refine XS.goto X1.here hx rfl (pc0 := 95) (pc' := 107) rfl (hb hby d3_95) (by decide) (by decide) ?_
      exact kt
  obtain ⟨fs, hr, hrun, hended, hW, hsame⟩ := X3.leave (v := some (.int (nar .boolean v2))) (fun h => by rw [Bd.returns] at h; cases h)
  refine ⟨_, _, pre0 _ ?_, hrun, hended, _, _, rfl, ?_, ⟨_, rfl⟩, hW, hsame.mono (by decide) (by decide)⟩
  · show Steps _ _ _ (s₁.setTop (mkF m 0 #[vR s_GREATER, vI p2] [])) _
    refine XS.aloadN X0.here hx rfl (hb hby d3_0) rfl rfl ?_
    show Steps _ _ _ (s₁.setTop (mkF m 1 #[vR s_GREATER, vI p2] [iR s_GREATER])) _
    refine st1.trans ?_
    show Steps _ _ _ (T1.setTop (mkF m 4 #[vR s_GREATER, vI p2] [iI 3])) _
    refine XS.tswIn X1.here hx rfl (pc0 := 4) (pc' := 86) rfl (hb hby d3_4) rfl (by decide) (o := 82) rfl (by decide) (by decide) ?_
    show Steps _ _ _ (T1.setTop (mkF m 86 #[vR s_GREATER, vI p2] [])) _
    refine XS.iloadN X1.here hx rfl (hb hby d3_86) rfl ?_
    show Steps _ _ _ (T1.setTop (mkF m 87 #[vR s_GREATER, vI p2] [iI p2])) _
    refine st3 _ ?_
    show Steps _ _ _ (T3.setTop (mkF m 107 #[vR s_GREATER, vI p2] [iI v2])) _
    exact retN X3 hx (t := .boolean) Bd.returns (by simp) (hb hby d3_107) hr
  · show Q3_3 Z p2 s_EQUAL s_GREATER s_GREATER_OR_EQUAL s_LESS s_LESS_OR_EQUAL h0 _ T3.heap _
    rw [e3]
    exact ⟨by subst hv2; first | rfl | (simp only [own_adm_3]; done) | (simp only [own_adm_3]; rfl) | (simp only [own_adm_3, nar] ; first | rfl | (simp; done) | decide), rfl, rfl⟩
def own_adm_4 (p2 : Int32) : Int32 := (nar .boolean (if p2 < (0 : Int32) then (0 : Int32) else (1 : Int32)))
theorem d3_98 : decode prog_77_method_6_code 98 = .ok (.iload_n 1, 1) := by decide +kernel
theorem d3_99 : decode prog_77_method_6_code 99 = .ok (.ifCond .lt 7, 3) := by decide +kernel
theorem d3_102 : decode prog_77_method_6_code 102 = .ok (.iconst 1, 1) := by decide +kernel
theorem d3_103 : decode prog_77_method_6_code 103 = .ok (.goto 4, 3) := by decide +kernel
theorem d3_106 : decode prog_77_method_6_code 106 = .ok (.iconst 0, 1) := by decide +kernel
theorem ef_3_4 (m : MethodId) (x0 : Addr) (x1 : Int32) : entryFrame m #[(.ref x0), (.int x1)] 2 = mkF m 0 #[.val (.ref x0), .val (.int x1)] [] := by first | (simp [entryFrame, mkF, argsToLocals, Value.category]; done) | rfl
def Q3_4 (Z : State) (p2 : Int32) (s_EQUAL : Addr) (s_GREATER : Addr) (s_GREATER_OR_EQUAL : Addr) (s_LESS : Addr) (s_LESS_OR_EQUAL : Addr) (h0 : Heap) (v : Option Value) (h : Heap) (L : List Loc) : Prop := v = some (.int (own_adm_4 p2)) ∧ L = [] ∧ h = h0
set_option maxRecDepth 65536 in
set_option maxHeartbeats 40000000 in
theorem rm3_4 (l : Launch) (Z : State) (a0 : Array Value) (hw : ∀ d ∈ tables_1, d.before a0 Z = true) (ws : List Jvm.Cond) (p2 : Int32) (s_EQUAL : Addr) (s_GREATER : Addr) (s_GREATER_OR_EQUAL : Addr) (s_LESS : Addr) (s_LESS_OR_EQUAL : Addr) (h0 : Heap) (S_EQUAL : Sta Z h0 "com/example/columngen/columngen/workload/Predicate$Operator" "EQUAL" "Lcom/example/columngen/columngen/workload/Predicate$Operator;" (.ref s_EQUAL)) (E_EQUAL : Exa Z h0 s_EQUAL "com/example/columngen/columngen/workload/Predicate$Operator") (S_GREATER : Sta Z h0 "com/example/columngen/columngen/workload/Predicate$Operator" "GREATER" "Lcom/example/columngen/columngen/workload/Predicate$Operator;" (.ref s_GREATER)) (E_GREATER : Exa Z h0 s_GREATER "com/example/columngen/columngen/workload/Predicate$Operator") (F_ordinal_EQUAL : Fld Z h0 s_EQUAL "java/lang/Enum" "ordinal" "I" (.int (0 : Int32))) (F_ordinal_GREATER : Fld Z h0 s_GREATER "java/lang/Enum" "ordinal" "I" (.int (3 : Int32))) (S_GREATER_OR_EQUAL : Sta Z h0 "com/example/columngen/columngen/workload/Predicate$Operator" "GREATER_OR_EQUAL" "Lcom/example/columngen/columngen/workload/Predicate$Operator;" (.ref s_GREATER_OR_EQUAL)) (E_GREATER_OR_EQUAL : Exa Z h0 s_GREATER_OR_EQUAL "com/example/columngen/columngen/workload/Predicate$Operator") (F_ordinal_GREATER_OR_EQUAL : Fld Z h0 s_GREATER_OR_EQUAL "java/lang/Enum" "ordinal" "I" (.int (4 : Int32))) (S_LESS : Sta Z h0 "com/example/columngen/columngen/workload/Predicate$Operator" "LESS" "Lcom/example/columngen/columngen/workload/Predicate$Operator;" (.ref s_LESS)) (E_LESS : Exa Z h0 s_LESS "com/example/columngen/columngen/workload/Predicate$Operator") (F_ordinal_LESS : Fld Z h0 s_LESS "java/lang/Enum" "ordinal" "I" (.int (1 : Int32))) (S_LESS_OR_EQUAL : Sta Z h0 "com/example/columngen/columngen/workload/Predicate$Operator" "LESS_OR_EQUAL" "Lcom/example/columngen/columngen/workload/Predicate$Operator;" (.ref s_LESS_OR_EQUAL)) (E_LESS_OR_EQUAL : Exa Z h0 s_LESS_OR_EQUAL "com/example/columngen/columngen/workload/Predicate$Operator") (F_ordinal_LESS_OR_EQUAL : Fld Z h0 s_LESS_OR_EQUAL "java/lang/Enum" "ordinal" "I" (.int (2 : Int32))) :
    MetFree l (⟨"com/example/columngen/columngen/workload/Predicate$Operator", "admits", "(I)Z"⟩ : MethodName) (head1 (Jvm.Cond.code (⟨"com/example/columngen/columngen/workload/Predicate$Operator", "admits", "(I)Z"⟩ : MethodName) prog_77_method_6_code 2 (some .boolean) :: ws) ({ frames := 1, cells := 0, slots := 0, locals := 12 } : Room)) (fun a U => a = #[(.ref s_GREATER_OR_EQUAL), (.int p2)] ∧ Z.Warmed39 U.vm ∧ U.heap = h0) (fun _ _ _ _ _ => True) (fun _ U o U' => ∃ v L, o = .returned v ∧ Q3_4 Z p2 s_EQUAL s_GREATER s_GREATER_OR_EQUAL s_LESS s_LESS_OR_EQUAL h0 v U'.heap L ∧ FrameEnd U o U' L ({ frames := 1, cells := 0, slots := 0, locals := 12 } : Room).cells ({ frames := 1, cells := 0, slots := 0, locals := 12 } : Room).slots) := by
  refine MetFree.of_bodySF (plainFor_of_name pn_1) hisR ?_
  intro p e s m args below meth c s₁ Bd hml0 hP hK
  obtain ⟨rfl, hZ, hh⟩ := hP
  have hx := Bd.exec
  have hby := Bd.bytes
  have hml : c.maxLocals = 2 := hml0
  have hown : s.vm.findClass "com/example/columngen/columngen/workload/Predicate$Operator" = some m.cls := findClass_of_methodNamed Bd.named
  have hnm := (name_of_methodNamed Bd.named Bd.method).1
  have X0 : Stand p l e ({ frames := 1, cells := 0, slots := 0, locals := 12 } : Room) s m #[(.ref s_GREATER_OR_EQUAL), (.int p2)] below meth c s₁ [] 0 0 := Stand.of_body Bd
  have e0 : s₁.heap = h0 := by rw [← hh, Bd.state]; rfl
  have pre0 : ∀ t, Steps p.tables e below (s₁.setTop (mkF m 0 #[.val (.ref s_GREATER_OR_EQUAL), .val (.int p2)] [])) t → Steps p.tables e below (s₁.setTop (entryFrame m #[(.ref s_GREATER_OR_EQUAL), (.int p2)] 2)) t := fun t k => castTop (ef_3_4 m s_GREATER_OR_EQUAL p2) k
  obtain ⟨cq1, kq1, q1a, q1b, q1c⟩ := isOf hZ e0 E_GREATER_OR_EQUAL
  obtain ⟨_, _, ⟨T1, L1, k1, n1⟩, -, X1, ⟨Lc1, hQ1, l1, y1, z1⟩, st1⟩ := X0.virtualBackUp hx (x := (⟨"com/example/columngen/columngen/workload/Predicate$Operator", "ordinal", "()I"⟩ : MethodName)) (y := (⟨"java/lang/Enum", "ordinal", "()I"⟩ : MethodName)) (owner := "java/lang/Enum") hown (mvT hZ (hw _ (List.mem_of_getElem? (i := 22) rfl))) (mvT hZ (hw _ (List.mem_of_getElem? (i := 23) rfl))) (mvT hZ (hw _ (List.mem_of_getElem? (i := 24) rfl))) (by decide) (mvT hZ (hw _ (List.mem_of_getElem? (i := 26) rfl))) (mvT hZ (hw _ (List.mem_of_getElem? (i := 25) rfl))) (backOf (W := 0) (rm4_4 l Z a0 hw []  s_EQUAL s_GREATER s_GREATER_OR_EQUAL s_LESS s_LESS_OR_EQUAL h0 S_EQUAL E_EQUAL S_GREATER E_GREATER F_ordinal_EQUAL F_ordinal_GREATER S_GREATER_OR_EQUAL E_GREATER_OR_EQUAL F_ordinal_GREATER_OR_EQUAL S_LESS E_LESS F_ordinal_LESS S_LESS_OR_EQUAL E_LESS_OR_EQUAL F_ordinal_LESS_OR_EQUAL) hZ (hw _ (List.mem_of_getElem? (i := 28) rfl)) (hw _ (List.mem_of_getElem? (i := 27) rfl)) (by decide) (by decide)) q1a q1c (g := (mkF m 1 #[vR s_GREATER_OR_EQUAL, vI p2] [iR s_GREATER_OR_EQUAL])) rfl (by rw [hml]; rfl) (Steps.refl _) (argsL := []) (rest := []) (lenOf pd_0 rfl) rfl (by show 2 * 0 + _ ≤ _; exact Nat.le_of_eq rfl) (hb hby d3_1) (fun _ _ => ⟨rfl, e0, (by decide : 0 + 0 ≤ _), (by decide : 0 + 0 ≤ _)⟩)
  dsimp only [Pt.U, Pt.locs, Pt.cells, Pt.slots] at X1 l1 y1 z1 st1 hQ1
  subst l1 y1 z1
  obtain ⟨rfl, rfl, e1⟩ := hQ1
  try rw [List.append_nil] at X1
  obtain ⟨v2, hv2⟩ : ∃ z : Int32, z = (if p2 < (0 : Int32) then (0 : Int32) else (1 : Int32)) := ⟨_, rfl⟩
  obtain ⟨T3, X3, e3, st3⟩ : own_Mid X1 h0 (mkF m 99 #[vR s_GREATER_OR_EQUAL, vI p2] [iI p2]) (mkF m 107 #[vR s_GREATER_OR_EQUAL, vI p2] [iI v2]) := by
    by_cases hc4 : p2 < (0 : Int32)
    · refine ⟨T1, X1, e1, fun t kt => ?_⟩
      subst hv2
      simp only [if_pos hc4] at kt
      show Steps _ _ _ (T1.setTop (mkF m 99 #[vR s_GREATER_OR_EQUAL, vI p2] [iI p2])) _
      refine XS.ifYes X1.here hx rfl (pc0 := 99) (pc' := 106) rfl (hb hby d3_99) rfl ((if0 _ _).trans (tlt hc4).1) (by decide) (by decide) ?_
      show Steps _ _ _ (T1.setTop (mkF m 106 #[vR s_GREATER_OR_EQUAL, vI p2] [])) _
      refine XS.iconst X1.here hx rfl (hb hby d3_106) ?_
      exact kt
    · refine ⟨T1, X1, e1, fun t kt => ?_⟩
      subst hv2
      simp only [if_neg hc4] at kt
      show Steps _ _ _ (T1.setTop (mkF m 99 #[vR s_GREATER_OR_EQUAL, vI p2] [iI p2])) _
      refine XS.ifNo X1.here hx rfl (hb hby d3_99) rfl ((if0 _ _).trans (flt hc4).1) ?_
      show Steps _ _ _ (T1.setTop (mkF m 102 #[vR s_GREATER_OR_EQUAL, vI p2] [])) _
      refine XS.iconst X1.here hx rfl (hb hby d3_102) ?_
      show Steps _ _ _ (T1.setTop (mkF m 103 #[vR s_GREATER_OR_EQUAL, vI p2] [iI 1])) _
      refine XS.goto X1.here hx rfl (pc0 := 103) (pc' := 107) rfl (hb hby d3_103) (by decide) (by decide) ?_
      exact kt
  obtain ⟨fs, hr, hrun, hended, hW, hsame⟩ := X3.leave (v := some (.int (nar .boolean v2))) (fun h => by rw [Bd.returns] at h; cases h)
  refine ⟨_, _, pre0 _ ?_, hrun, hended, _, _, rfl, ?_, ⟨_, rfl⟩, hW, hsame.mono (by decide) (by decide)⟩
  · show Steps _ _ _ (s₁.setTop (mkF m 0 #[vR s_GREATER_OR_EQUAL, vI p2] [])) _
    refine XS.aloadN X0.here hx rfl (hb hby d3_0) rfl rfl ?_
    show Steps _ _ _ (s₁.setTop (mkF m 1 #[vR s_GREATER_OR_EQUAL, vI p2] [iR s_GREATER_OR_EQUAL])) _
    refine st1.trans ?_
    show Steps _ _ _ (T1.setTop (mkF m 4 #[vR s_GREATER_OR_EQUAL, vI p2] [iI 4])) _
    refine XS.tswIn X1.here hx rfl (pc0 := 4) (pc' := 98) rfl (hb hby d3_4) rfl (by decide) (o := 94) rfl (by decide) (by decide) ?_
    show Steps _ _ _ (T1.setTop (mkF m 98 #[vR s_GREATER_OR_EQUAL, vI p2] [])) _
    refine XS.iloadN X1.here hx rfl (hb hby d3_98) rfl ?_
    show Steps _ _ _ (T1.setTop (mkF m 99 #[vR s_GREATER_OR_EQUAL, vI p2] [iI p2])) _
    refine st3 _ ?_
    show Steps _ _ _ (T3.setTop (mkF m 107 #[vR s_GREATER_OR_EQUAL, vI p2] [iI v2])) _
    exact retN X3 hx (t := .boolean) Bd.returns (by simp) (hb hby d3_107) hr
  · show Q3_4 Z p2 s_EQUAL s_GREATER s_GREATER_OR_EQUAL s_LESS s_LESS_OR_EQUAL h0 _ T3.heap _
    rw [e3]
    exact ⟨by subst hv2; first | rfl | (simp only [own_adm_4]; done) | (simp only [own_adm_4]; rfl) | (simp only [own_adm_4, nar] ; first | rfl | (simp; done) | decide), rfl, rfl⟩
theorem own_pos (p v : Int32) (h : v = if (p &&& (2147483647 : Int32)) = (0 : Int32) then (1 : Int32) else (p &&& (2147483647 : Int32))) : 0 < v.toInt := by
  have h0 := (c_and p 2147483647 (by decide)).1
  rw [h]; split
  · decide
  · rename_i hne
    have : (p &&& (2147483647 : Int32)).toInt ≠ 0 := fun q => hne (Int32.toInt_inj.mp q)
    omega
theorem own_sg (v : Int32) (h : 0 < v.toInt) : (0 : Int32) < v ∧ ¬ v < (0 : Int32) ∧ ¬ v = (0 : Int32) := by
  have e0 : (0 : Int32).toInt = 0 := rfl
  refine ⟨?_, ?_, fun q => ?_⟩
  · rw [Int32.lt_iff_toInt_lt, e0]; exact h
  · rw [Int32.lt_iff_toInt_lt, e0]; omega
  · rw [q, e0] at h; omega
theorem own_sgn (v : Int32) (h : 0 < v.toInt) : ¬ (0 : Int32) < -v ∧ -v < (0 : Int32) ∧ ¬ -v = (0 : Int32) := by
  have e0 : (0 : Int32).toInt = 0 := rfl
  have h1 := c_ineg v
  have h2 := rng32 v
  have h3 := rng32 (-v)
  refine ⟨?_, ?_, fun q => ?_⟩
  · rw [Int32.lt_iff_toInt_lt, e0]; omega
  · rw [Int32.lt_iff_toInt_lt, e0]; omega
  · rw [q, e0] at h1; omega
theorem own_pos_0 (v : Int32) (h : 0 < v.toInt) : own_adm_0 v = 0 := by
  obtain ⟨h1, h2, h3⟩ := own_sg v h
  unfold own_adm_0
  first | rw [if_pos h1] | rw [if_neg h1] | rw [if_pos h2] | rw [if_neg h2] | rw [if_neg h3]
  all_goals decide
theorem own_neg_0 (v : Int32) (h : 0 < v.toInt) : own_adm_0 (-v) = 0 := by
  obtain ⟨h1, h2, h3⟩ := own_sgn v h
  unfold own_adm_0
  first | rw [if_pos h1] | rw [if_neg h1] | rw [if_pos h2] | rw [if_neg h2] | rw [if_neg h3]
  all_goals decide
theorem own_pos_1 (v : Int32) (h : 0 < v.toInt) : own_adm_1 v = 0 := by
  obtain ⟨h1, h2, h3⟩ := own_sg v h
  unfold own_adm_1
  first | rw [if_pos h1] | rw [if_neg h1] | rw [if_pos h2] | rw [if_neg h2] | rw [if_neg h3]
  all_goals decide
theorem own_neg_1 (v : Int32) (h : 0 < v.toInt) : own_adm_1 (-v) = 1 := by
  obtain ⟨h1, h2, h3⟩ := own_sgn v h
  unfold own_adm_1
  first | rw [if_pos h1] | rw [if_neg h1] | rw [if_pos h2] | rw [if_neg h2] | rw [if_neg h3]
  all_goals decide
theorem own_pos_2 (v : Int32) (h : 0 < v.toInt) : own_adm_2 v = 0 := by
  obtain ⟨h1, h2, h3⟩ := own_sg v h
  unfold own_adm_2
  first | rw [if_pos h1] | rw [if_neg h1] | rw [if_pos h2] | rw [if_neg h2] | rw [if_neg h3]
  all_goals decide
theorem own_neg_2 (v : Int32) (h : 0 < v.toInt) : own_adm_2 (-v) = 1 := by
  obtain ⟨h1, h2, h3⟩ := own_sgn v h
  unfold own_adm_2
  first | rw [if_pos h1] | rw [if_neg h1] | rw [if_pos h2] | rw [if_neg h2] | rw [if_neg h3]
  all_goals decide
theorem own_pos_3 (v : Int32) (h : 0 < v.toInt) : own_adm_3 v = 1 := by
  obtain ⟨h1, h2, h3⟩ := own_sg v h
  unfold own_adm_3
  first | rw [if_pos h1] | rw [if_neg h1] | rw [if_pos h2] | rw [if_neg h2] | rw [if_neg h3]
  all_goals decide
theorem own_neg_3 (v : Int32) (h : 0 < v.toInt) : own_adm_3 (-v) = 0 := by
  obtain ⟨h1, h2, h3⟩ := own_sgn v h
  unfold own_adm_3
  first | rw [if_pos h1] | rw [if_neg h1] | rw [if_pos h2] | rw [if_neg h2] | rw [if_neg h3]
  all_goals decide
theorem own_pos_4 (v : Int32) (h : 0 < v.toInt) : own_adm_4 v = 1 := by
  obtain ⟨h1, h2, h3⟩ := own_sg v h
  unfold own_adm_4
  first | rw [if_pos h1] | rw [if_neg h1] | rw [if_pos h2] | rw [if_neg h2] | rw [if_neg h3]
  all_goals decide
theorem own_neg_4 (v : Int32) (h : 0 < v.toInt) : own_adm_4 (-v) = 0 := by
  obtain ⟨h1, h2, h3⟩ := own_sgn v h
  unfold own_adm_4
  first | rw [if_pos h1] | rw [if_neg h1] | rw [if_pos h2] | rw [if_neg h2] | rw [if_neg h3]
  all_goals decide

theorem ef_0 (m : MethodId) (x0 : Int32) (x1 : Int32) : entryFrame m #[(.int x0), (.int x1)] maxLocals = mkF m 0 #[.val (.int x0), .val (.int x1), .unset, .unset, .unset, .unset, .unset, .unset, .unset] [] := by first | (simp [entryFrame, mkF, argsToLocals, Value.category, maxLocals]; done) | rfl
def Q0 (Z : State) (p1 : Int32) (p2 : Int32) (s_EQUAL : Addr) (s_GREATER : Addr) (s_GREATER_OR_EQUAL : Addr) (s_LESS : Addr) (s_LESS_OR_EQUAL : Addr) (h0 : Heap) (v : Option Value) (h : Heap) (L : List Loc) : Prop := v = some (.int (1 : Int32)) ∧ L = [] ∧ h = h0
set_option maxRecDepth 65536 in
set_option maxHeartbeats 40000000 in
theorem rm0 (l : Launch) (Z : State) (a0 : Array Value) (hw : ∀ d ∈ tables_1, d.before a0 Z = true) (ws : List Jvm.Cond) (p1 : Int32) (p2 : Int32) (s_EQUAL : Addr) (s_GREATER : Addr) (s_GREATER_OR_EQUAL : Addr) (s_LESS : Addr) (s_LESS_OR_EQUAL : Addr) (h0 : Heap) (S_EQUAL : Sta Z h0 "com/example/columngen/columngen/workload/Predicate$Operator" "EQUAL" "Lcom/example/columngen/columngen/workload/Predicate$Operator;" (.ref s_EQUAL)) (E_EQUAL : Exa Z h0 s_EQUAL "com/example/columngen/columngen/workload/Predicate$Operator") (S_GREATER : Sta Z h0 "com/example/columngen/columngen/workload/Predicate$Operator" "GREATER" "Lcom/example/columngen/columngen/workload/Predicate$Operator;" (.ref s_GREATER)) (E_GREATER : Exa Z h0 s_GREATER "com/example/columngen/columngen/workload/Predicate$Operator") (F_ordinal_EQUAL : Fld Z h0 s_EQUAL "java/lang/Enum" "ordinal" "I" (.int (0 : Int32))) (F_ordinal_GREATER : Fld Z h0 s_GREATER "java/lang/Enum" "ordinal" "I" (.int (3 : Int32))) (S_GREATER_OR_EQUAL : Sta Z h0 "com/example/columngen/columngen/workload/Predicate$Operator" "GREATER_OR_EQUAL" "Lcom/example/columngen/columngen/workload/Predicate$Operator;" (.ref s_GREATER_OR_EQUAL)) (E_GREATER_OR_EQUAL : Exa Z h0 s_GREATER_OR_EQUAL "com/example/columngen/columngen/workload/Predicate$Operator") (F_ordinal_GREATER_OR_EQUAL : Fld Z h0 s_GREATER_OR_EQUAL "java/lang/Enum" "ordinal" "I" (.int (4 : Int32))) (S_LESS : Sta Z h0 "com/example/columngen/columngen/workload/Predicate$Operator" "LESS" "Lcom/example/columngen/columngen/workload/Predicate$Operator;" (.ref s_LESS)) (E_LESS : Exa Z h0 s_LESS "com/example/columngen/columngen/workload/Predicate$Operator") (F_ordinal_LESS : Fld Z h0 s_LESS "java/lang/Enum" "ordinal" "I" (.int (1 : Int32))) (S_LESS_OR_EQUAL : Sta Z h0 "com/example/columngen/columngen/workload/Predicate$Operator" "LESS_OR_EQUAL" "Lcom/example/columngen/columngen/workload/Predicate$Operator;" (.ref s_LESS_OR_EQUAL)) (E_LESS_OR_EQUAL : Exa Z h0 s_LESS_OR_EQUAL "com/example/columngen/columngen/workload/Predicate$Operator") (F_ordinal_LESS_OR_EQUAL : Fld Z h0 s_LESS_OR_EQUAL "java/lang/Enum" "ordinal" "I" (.int (2 : Int32))) :
    MetFree l x (head1 (Jvm.Cond.code x code maxLocals ret :: ws) room_1) (fun a U => a = #[(.int p1), (.int p2)] ∧ Z.Warmed39 U.vm ∧ U.heap = h0) (fun _ _ _ _ _ => True) (fun _ U o U' => ∃ v L, o = .returned v ∧ Q0 Z p1 p2 s_EQUAL s_GREATER s_GREATER_OR_EQUAL s_LESS s_LESS_OR_EQUAL h0 v U'.heap L ∧ FrameEnd U o U' L room_1.cells room_1.slots) := by
  refine MetFree.of_bodySF (plainFor_of_name pn_0) hisR ?_
  intro p e s m args below meth c s₁ Bd hml0 hP hK
  obtain ⟨rfl, hZ, hh⟩ := hP
  have hx := Bd.exec
  have hby := Bd.bytes
  have hml : c.maxLocals = 9 := hml0
  have hown : s.vm.findClass "com/example/columngen/columngen/workload/OperatorIsLowerBoundPinLaw" = some m.cls := findClass_of_methodNamed Bd.named
  have hnm := (name_of_methodNamed Bd.named Bd.method).1
  have X0 : Stand p l e room_1 s m #[(.int p1), (.int p2)] below meth c s₁ [] 0 0 := Stand.of_body Bd
  have e0 : s₁.heap = h0 := by rw [← hh, Bd.state]; rfl
  have pre0 : ∀ t, Steps p.tables e below (s₁.setTop (mkF m 0 #[.val (.int p1), .val (.int p2), .unset, .unset, .unset, .unset, .unset, .unset, .unset] [])) t → Steps p.tables e below (s₁.setTop (entryFrame m #[(.int p1), (.int p2)] maxLocals)) t := fun t k => castTop (ef_0 m p1 p2) k
  obtain ⟨kv, hkv⟩ : ∃ z : Int32, z = ((p1 &&& (2147483647 : Int32)) % (5 : Int32)) := ⟨_, rfl⟩
  have qkv : kv = 0 ∨ kv = 1 ∨ kv = 2 ∨ kv = 3 ∨ kv = 4 := by rw [hkv]; exact own_small5 _ (own_rem p1 5 5 rfl (by decide)).1 (own_rem p1 5 5 rfl (by decide)).2
  have pre2 : ∀ t, Steps p.tables e below (s₁.setTop (mkF m 7 #[vI p1, vI p2, vI kv, .unset, .unset, .unset, .unset, .unset, .unset] [])) t → Steps p.tables e below (s₁.setTop (entryFrame m #[(.int p1), (.int p2)] maxLocals)) t := by
    intro t kt
    refine pre0 t ?_
    show Steps _ _ _ (s₁.setTop (mkF m 0 #[vI p1, vI p2, .unset, .unset, .unset, .unset, .unset, .unset, .unset] [])) _
    refine XS.iloadN X0.here hx rfl (hb hby at_0) rfl ?_
    show Steps _ _ _ (s₁.setTop (mkF m 1 #[vI p1, vI p2, .unset, .unset, .unset, .unset, .unset, .unset, .unset] [iI p1])) _
    refine X0.ldcInt hx hown (mvT hZ (hw _ (List.mem_of_getElem? (i := 0) rfl))) (g := (mkF m 1 #[vI p1, vI p2, .unset, .unset, .unset, .unset, .unset, .unset, .unset] [iI p1])) rfl (hb hby at_1) _ ?_
    show Steps _ _ _ (s₁.setTop (mkF m 3 #[vI p1, vI p2, .unset, .unset, .unset, .unset, .unset, .unset, .unset] [iI 2147483647, iI p1])) _
    refine XS.iand X0.here hx rfl (hb hby at_3) rfl ?_
    show Steps _ _ _ (s₁.setTop (mkF m 4 #[vI p1, vI p2, .unset, .unset, .unset, .unset, .unset, .unset, .unset] [iI (p1 &&& (2147483647 : Int32))])) _
    refine XS.iconst X0.here hx rfl (hb hby at_4) ?_
    show Steps _ _ _ (s₁.setTop (mkF m 5 #[vI p1, vI p2, .unset, .unset, .unset, .unset, .unset, .unset, .unset] [iI 5, iI (p1 &&& (2147483647 : Int32))])) _
    refine iremM X0 hx rfl (hb hby at_5) rfl (by decide) ?_
    show Steps _ _ _ (s₁.setTop (mkF m 6 #[vI p1, vI p2, .unset, .unset, .unset, .unset, .unset, .unset, .unset] [iI ((p1 &&& (2147483647 : Int32)) % (5 : Int32))])) _
    refine XS.istoreN X0.here hx rfl (hb hby at_6) rfl (l' := #[vI p1, vI p2, vI ((p1 &&& (2147483647 : Int32)) % (5 : Int32)), .unset, .unset, .unset, .unset, .unset, .unset]) rfl ?_
    rw [← hkv]
    exact kt
  rcases qkv with rfl | rfl | rfl | rfl | rfl
  · obtain ⟨_, _, ⟨T3, L3, k3, n3⟩, -, X3, ⟨Lc3, hQ3, l3, y3, z3⟩, st3⟩ := Jvm.LawKit.callS X0 hx (y := (⟨"com/example/columngen/columngen/workload/OperatorIsLowerBoundPinLaw", "pick", "(I)Lcom/example/columngen/columngen/workload/Predicate$Operator;"⟩ : MethodName)) hown (mvT hZ (hw _ (List.mem_of_getElem? (i := 1) rfl))) (mvT hZ (hw _ (List.mem_of_getElem? (i := 2) rfl))) (mvT hZ (hw _ (List.mem_of_getElem? (i := 3) rfl))) (mvT hZ (hw _ (List.mem_of_getElem? (i := 4) rfl))) (by decide) (backOf (W := 0) (rm1_0 l Z a0 hw []  s_EQUAL s_GREATER s_GREATER_OR_EQUAL s_LESS s_LESS_OR_EQUAL h0 S_EQUAL E_EQUAL S_GREATER E_GREATER F_ordinal_EQUAL F_ordinal_GREATER S_GREATER_OR_EQUAL E_GREATER_OR_EQUAL F_ordinal_GREATER_OR_EQUAL S_LESS E_LESS F_ordinal_LESS S_LESS_OR_EQUAL E_LESS_OR_EQUAL F_ordinal_LESS_OR_EQUAL) hZ (hw _ (List.mem_of_getElem? (i := 4) rfl)) (hw _ (List.mem_of_getElem? (i := 3) rfl)) (by decide) (by decide)) (g := (mkF m 8 #[vI p1, vI p2, vI 0, .unset, .unset, .unset, .unset, .unset, .unset] [iI 0])) rfl (by rw [hml]; rfl) (argsL := [(.int (0 : Int32))]) (rest := []) (lenOf pd_1 rfl) rfl (by show 2 * 0 + _ ≤ _; exact Nat.le_of_eq rfl) (hb hby at_8) (fun _ _ => ⟨rfl, e0, (by decide : 0 + 0 ≤ _), (by decide : 0 + 0 ≤ _)⟩)
    dsimp only [Pt.U, Pt.locs, Pt.cells, Pt.slots] at X3 l3 y3 z3 st3 hQ3
    subst l3 y3 z3
    obtain ⟨rfl, rfl, e3⟩ := hQ3
    try rw [List.append_nil] at X3
    obtain ⟨v4, hv4⟩ : ∃ z : Int32, z = (if (p2 &&& (2147483647 : Int32)) = (0 : Int32) then (1 : Int32) else (p2 &&& (2147483647 : Int32))) := ⟨_, rfl⟩
    obtain ⟨T5, X5, e5, st5⟩ : own_Mid X3 h0 (mkF m 20 #[vI p1, vI p2, vI 0, vR s_EQUAL, vI (p2 &&& (2147483647 : Int32)), .unset, .unset, .unset, .unset] [iI (p2 &&& (2147483647 : Int32))]) (mkF m 26 #[vI p1, vI p2, vI 0, vR s_EQUAL, vI v4, .unset, .unset, .unset, .unset] []) := by
      by_cases hc6 : (p2 &&& (2147483647 : Int32)) = (0 : Int32)
      · refine ⟨T3, X3, e3, fun t kt => ?_⟩
        subst hv4
        simp only [if_pos hc6] at kt
        show Steps _ _ _ (T3.setTop (mkF m 20 #[vI p1, vI p2, vI 0, vR s_EQUAL, vI (p2 &&& (2147483647 : Int32)), .unset, .unset, .unset, .unset] [iI (p2 &&& (2147483647 : Int32))])) _
        refine XS.ifNo X3.here hx rfl (hb hby at_20) rfl ((if0 _ _).trans (teq hc6).2) ?_
        show Steps _ _ _ (T3.setTop (mkF m 23 #[vI p1, vI p2, vI 0, vR s_EQUAL, vI (p2 &&& (2147483647 : Int32)), .unset, .unset, .unset, .unset] [])) _
        refine XS.iconst X3.here hx rfl (hb hby at_23) ?_
        show Steps _ _ _ (T3.setTop (mkF m 24 #[vI p1, vI p2, vI 0, vR s_EQUAL, vI (p2 &&& (2147483647 : Int32)), .unset, .unset, .unset, .unset] [iI 1])) _
        refine XS.istore X3.here hx rfl (hb hby at_24) rfl (l' := #[vI p1, vI p2, vI 0, vR s_EQUAL, vI 1, .unset, .unset, .unset, .unset]) rfl ?_
        exact kt
      · refine ⟨T3, X3, e3, fun t kt => ?_⟩
        subst hv4
        simp only [if_neg hc6] at kt
        show Steps _ _ _ (T3.setTop (mkF m 20 #[vI p1, vI p2, vI 0, vR s_EQUAL, vI (p2 &&& (2147483647 : Int32)), .unset, .unset, .unset, .unset] [iI (p2 &&& (2147483647 : Int32))])) _
        refine XS.ifYes X3.here hx rfl (pc0 := 20) (pc' := 26) rfl (hb hby at_20) rfl ((if0 _ _).trans (feq hc6).2) (by decide) (by decide) ?_
        exact kt
    have hpos : 0 < v4.toInt := own_pos p2 v4 hv4
    obtain ⟨cq7, kq7, q7a, q7b, q7c⟩ := isOf hZ e5 E_EQUAL
    obtain ⟨_, _, ⟨T7, L7, k7, n7⟩, -, X7, ⟨Lc7, hQ7, l7, y7, z7⟩, st7⟩ := X5.virtualBack hx (y := (⟨"com/example/columngen/columngen/workload/Predicate$Operator", "isLowerBound", "()Z"⟩ : MethodName)) (z := (⟨"com/example/columngen/columngen/workload/Predicate$Operator", "isLowerBound", "()Z"⟩ : MethodName)) hown (mvT hZ (hw _ (List.mem_of_getElem? (i := 8) rfl))) (mvT hZ (hw _ (List.mem_of_getElem? (i := 9) rfl))) (notFace_of_selects (args := #[]) (mvT hZ (hw _ (List.mem_of_getElem? (i := 11) rfl)))) (mvT hZ (hw _ (List.mem_of_getElem? (i := 11) rfl))) (mvT hZ (hw _ (List.mem_of_getElem? (i := 10) rfl))) (by decide) (backOf (W := 0) (rm2_0 l Z a0 hw []  s_EQUAL s_GREATER s_GREATER_OR_EQUAL s_LESS s_LESS_OR_EQUAL h0 S_EQUAL E_EQUAL S_GREATER E_GREATER F_ordinal_EQUAL F_ordinal_GREATER S_GREATER_OR_EQUAL E_GREATER_OR_EQUAL F_ordinal_GREATER_OR_EQUAL S_LESS E_LESS F_ordinal_LESS S_LESS_OR_EQUAL E_LESS_OR_EQUAL F_ordinal_LESS_OR_EQUAL) hZ (hw _ (List.mem_of_getElem? (i := 12) rfl)) (hw _ (List.mem_of_getElem? (i := 6) rfl)) (by decide) (by decide)) q7a q7c (g := (mkF m 32 #[vI p1, vI p2, vI 0, vR s_EQUAL, vI v4, vI (-v4), .unset, .unset, .unset] [iR s_EQUAL])) rfl (by rw [hml]; rfl) (Steps.refl _) (argsL := []) (rest := []) (lenOf pd_2 rfl) rfl (by show 2 * 0 + _ ≤ _; exact Nat.le_of_eq rfl) (hb hby at_32) (fun _ _ => ⟨rfl, e5, (by decide : 0 + 0 ≤ _), (by decide : 0 + 0 ≤ _)⟩)
    dsimp only [Pt.U, Pt.locs, Pt.cells, Pt.slots] at X7 l7 y7 z7 st7 hQ7
    subst l7 y7 z7
    obtain ⟨rfl, rfl, e7⟩ := hQ7
    try rw [List.append_nil] at X7
    obtain ⟨cq8, kq8, q8a, q8b, q8c⟩ := isOf hZ e7 E_EQUAL
    obtain ⟨_, _, ⟨T8, L8, k8, n8⟩, -, X8, ⟨Lc8, hQ8, l8, y8, z8⟩, st8⟩ := X7.virtualBack hx (y := (⟨"com/example/columngen/columngen/workload/Predicate$Operator", "admits", "(I)Z"⟩ : MethodName)) (z := (⟨"com/example/columngen/columngen/workload/Predicate$Operator", "admits", "(I)Z"⟩ : MethodName)) hown (mvT hZ (hw _ (List.mem_of_getElem? (i := 17) rfl))) (mvT hZ (hw _ (List.mem_of_getElem? (i := 18) rfl))) (notFace_of_selects (args := #[]) (mvT hZ (hw _ (List.mem_of_getElem? (i := 20) rfl)))) (mvT hZ (hw _ (List.mem_of_getElem? (i := 20) rfl))) (mvT hZ (hw _ (List.mem_of_getElem? (i := 19) rfl))) (by decide) (backOf (W := 0) (rm3_0 l Z a0 hw [] v4 s_EQUAL s_GREATER s_GREATER_OR_EQUAL s_LESS s_LESS_OR_EQUAL h0 S_EQUAL E_EQUAL S_GREATER E_GREATER F_ordinal_EQUAL F_ordinal_GREATER S_GREATER_OR_EQUAL E_GREATER_OR_EQUAL F_ordinal_GREATER_OR_EQUAL S_LESS E_LESS F_ordinal_LESS S_LESS_OR_EQUAL E_LESS_OR_EQUAL F_ordinal_LESS_OR_EQUAL) hZ (hw _ (List.mem_of_getElem? (i := 21) rfl)) (hw _ (List.mem_of_getElem? (i := 6) rfl)) (by decide) (by decide)) q8a q8c (g := (mkF m 40 #[vI p1, vI p2, vI 0, vR s_EQUAL, vI v4, vI (-v4), vI 0, .unset, .unset] [iI v4, iR s_EQUAL])) rfl (by rw [hml]; rfl) (Steps.refl _) (argsL := [(.int v4)]) (rest := []) (lenOf pd_3 rfl) rfl (by show 2 * 0 + _ ≤ _; exact Nat.le_of_eq rfl) (hb hby at_40) (fun _ _ => ⟨rfl, e7, (by decide : 0 + 0 ≤ _), (by decide : 0 + 0 ≤ _)⟩)
    dsimp only [Pt.U, Pt.locs, Pt.cells, Pt.slots] at X8 l8 y8 z8 st8 hQ8
    subst l8 y8 z8
    obtain ⟨rfl, rfl, e8⟩ := hQ8
    try rw [List.append_nil] at X8
    obtain ⟨cq9, kq9, q9a, q9b, q9c⟩ := isOf hZ e8 E_EQUAL
    obtain ⟨_, _, ⟨T9, L9, k9, n9⟩, -, X9, ⟨Lc9, hQ9, l9, y9, z9⟩, st9⟩ := X8.virtualBack hx (y := (⟨"com/example/columngen/columngen/workload/Predicate$Operator", "admits", "(I)Z"⟩ : MethodName)) (z := (⟨"com/example/columngen/columngen/workload/Predicate$Operator", "admits", "(I)Z"⟩ : MethodName)) hown (mvT hZ (hw _ (List.mem_of_getElem? (i := 17) rfl))) (mvT hZ (hw _ (List.mem_of_getElem? (i := 18) rfl))) (notFace_of_selects (args := #[]) (mvT hZ (hw _ (List.mem_of_getElem? (i := 20) rfl)))) (mvT hZ (hw _ (List.mem_of_getElem? (i := 20) rfl))) (mvT hZ (hw _ (List.mem_of_getElem? (i := 19) rfl))) (by decide) (backOf (W := 0) (rm3_0 l Z a0 hw [] (-v4) s_EQUAL s_GREATER s_GREATER_OR_EQUAL s_LESS s_LESS_OR_EQUAL h0 S_EQUAL E_EQUAL S_GREATER E_GREATER F_ordinal_EQUAL F_ordinal_GREATER S_GREATER_OR_EQUAL E_GREATER_OR_EQUAL F_ordinal_GREATER_OR_EQUAL S_LESS E_LESS F_ordinal_LESS S_LESS_OR_EQUAL E_LESS_OR_EQUAL F_ordinal_LESS_OR_EQUAL) hZ (hw _ (List.mem_of_getElem? (i := 21) rfl)) (hw _ (List.mem_of_getElem? (i := 6) rfl)) (by decide) (by decide)) q9a q9c (g := (mkF m 48 #[vI p1, vI p2, vI 0, vR s_EQUAL, vI v4, vI (-v4), vI 0, vI (own_adm_0 v4), .unset] [iI (-v4), iR s_EQUAL])) rfl (by rw [hml]; rfl) (Steps.refl _) (argsL := [(.int (-v4))]) (rest := []) (lenOf pd_3 rfl) rfl (by show 2 * 0 + _ ≤ _; exact Nat.le_of_eq rfl) (hb hby at_48) (fun _ _ => ⟨rfl, e8, (by decide : 0 + 0 ≤ _), (by decide : 0 + 0 ≤ _)⟩)
    dsimp only [Pt.U, Pt.locs, Pt.cells, Pt.slots] at X9 l9 y9 z9 st9 hQ9
    subst l9 y9 z9
    obtain ⟨rfl, rfl, e9⟩ := hQ9
    try rw [List.append_nil] at X9
    have hh10 : (own_adm_0 (-v4)) = (0 : Int32) := own_neg_0 v4 hpos
    have hh11 : (own_adm_0 v4) = (0 : Int32) := own_pos_0 v4 hpos
    obtain ⟨fs, hr, hrun, hended, hW, hsame⟩ := X9.leave (v := some (.int (1 : Int32))) (fun h => by rw [Bd.returns] at h; cases h)
    refine ⟨_, _, pre2 _ ?_, hrun, hended, _, _, rfl, ?_, ⟨_, rfl⟩, hW, hsame.mono (by decide) (by decide)⟩
    · show Steps _ _ _ (s₁.setTop (mkF m 7 #[vI p1, vI p2, vI 0, .unset, .unset, .unset, .unset, .unset, .unset] [])) _
      refine XS.iloadN X0.here hx rfl (hb hby at_7) rfl ?_
      show Steps _ _ _ (s₁.setTop (mkF m 8 #[vI p1, vI p2, vI 0, .unset, .unset, .unset, .unset, .unset, .unset] [iI 0])) _
      refine st3 _ ?_
      show Steps _ _ _ (T3.setTop (mkF m 11 #[vI p1, vI p2, vI 0, .unset, .unset, .unset, .unset, .unset, .unset] [iR s_EQUAL])) _
      refine XS.astoreN X3.here hx rfl (hb hby at_11) rfl rfl (l' := #[vI p1, vI p2, vI 0, vR s_EQUAL, .unset, .unset, .unset, .unset, .unset]) rfl ?_
      show Steps _ _ _ (T3.setTop (mkF m 12 #[vI p1, vI p2, vI 0, vR s_EQUAL, .unset, .unset, .unset, .unset, .unset] [])) _
      refine XS.iloadN X3.here hx rfl (hb hby at_12) rfl ?_
      show Steps _ _ _ (T3.setTop (mkF m 13 #[vI p1, vI p2, vI 0, vR s_EQUAL, .unset, .unset, .unset, .unset, .unset] [iI p2])) _
      refine X3.ldcInt hx hown (mvT hZ (hw _ (List.mem_of_getElem? (i := 0) rfl))) (g := (mkF m 13 #[vI p1, vI p2, vI 0, vR s_EQUAL, .unset, .unset, .unset, .unset, .unset] [iI p2])) rfl (hb hby at_13) _ ?_
      show Steps _ _ _ (T3.setTop (mkF m 15 #[vI p1, vI p2, vI 0, vR s_EQUAL, .unset, .unset, .unset, .unset, .unset] [iI 2147483647, iI p2])) _
      refine XS.iand X3.here hx rfl (hb hby at_15) rfl ?_
      show Steps _ _ _ (T3.setTop (mkF m 16 #[vI p1, vI p2, vI 0, vR s_EQUAL, .unset, .unset, .unset, .unset, .unset] [iI (p2 &&& (2147483647 : Int32))])) _
      refine XS.istore X3.here hx rfl (hb hby at_16) rfl (l' := #[vI p1, vI p2, vI 0, vR s_EQUAL, vI (p2 &&& (2147483647 : Int32)), .unset, .unset, .unset, .unset]) rfl ?_
      show Steps _ _ _ (T3.setTop (mkF m 18 #[vI p1, vI p2, vI 0, vR s_EQUAL, vI (p2 &&& (2147483647 : Int32)), .unset, .unset, .unset, .unset] [])) _
      refine XS.iload X3.here hx rfl (hb hby at_18) rfl ?_
      show Steps _ _ _ (T3.setTop (mkF m 20 #[vI p1, vI p2, vI 0, vR s_EQUAL, vI (p2 &&& (2147483647 : Int32)), .unset, .unset, .unset, .unset] [iI (p2 &&& (2147483647 : Int32))])) _
      refine st5 _ ?_
      show Steps _ _ _ (T5.setTop (mkF m 26 #[vI p1, vI p2, vI 0, vR s_EQUAL, vI v4, .unset, .unset, .unset, .unset] [])) _
      refine XS.iload X5.here hx rfl (hb hby at_26) rfl ?_
      show Steps _ _ _ (T5.setTop (mkF m 28 #[vI p1, vI p2, vI 0, vR s_EQUAL, vI v4, .unset, .unset, .unset, .unset] [iI v4])) _
      refine XS.ineg X5.here hx rfl (hb hby at_28) rfl ?_
      show Steps _ _ _ (T5.setTop (mkF m 29 #[vI p1, vI p2, vI 0, vR s_EQUAL, vI v4, .unset, .unset, .unset, .unset] [iI (-v4)])) _
      refine XS.istore X5.here hx rfl (hb hby at_29) rfl (l' := #[vI p1, vI p2, vI 0, vR s_EQUAL, vI v4, vI (-v4), .unset, .unset, .unset]) rfl ?_
      show Steps _ _ _ (T5.setTop (mkF m 31 #[vI p1, vI p2, vI 0, vR s_EQUAL, vI v4, vI (-v4), .unset, .unset, .unset] [])) _
      refine XS.aloadN X5.here hx rfl (hb hby at_31) rfl rfl ?_
      show Steps _ _ _ (T5.setTop (mkF m 32 #[vI p1, vI p2, vI 0, vR s_EQUAL, vI v4, vI (-v4), .unset, .unset, .unset] [iR s_EQUAL])) _
      refine st7.trans ?_
      show Steps _ _ _ (T7.setTop (mkF m 35 #[vI p1, vI p2, vI 0, vR s_EQUAL, vI v4, vI (-v4), .unset, .unset, .unset] [iI 0])) _
      refine XS.istore X7.here hx rfl (hb hby at_35) rfl (l' := #[vI p1, vI p2, vI 0, vR s_EQUAL, vI v4, vI (-v4), vI 0, .unset, .unset]) rfl ?_
      show Steps _ _ _ (T7.setTop (mkF m 37 #[vI p1, vI p2, vI 0, vR s_EQUAL, vI v4, vI (-v4), vI 0, .unset, .unset] [])) _
      refine XS.aloadN X7.here hx rfl (hb hby at_37) rfl rfl ?_
      show Steps _ _ _ (T7.setTop (mkF m 38 #[vI p1, vI p2, vI 0, vR s_EQUAL, vI v4, vI (-v4), vI 0, .unset, .unset] [iR s_EQUAL])) _
      refine XS.iload X7.here hx rfl (hb hby at_38) rfl ?_
      show Steps _ _ _ (T7.setTop (mkF m 40 #[vI p1, vI p2, vI 0, vR s_EQUAL, vI v4, vI (-v4), vI 0, .unset, .unset] [iI v4, iR s_EQUAL])) _
      refine st8.trans ?_
      show Steps _ _ _ (T8.setTop (mkF m 43 #[vI p1, vI p2, vI 0, vR s_EQUAL, vI v4, vI (-v4), vI 0, .unset, .unset] [iI (own_adm_0 v4)])) _
      refine XS.istore X8.here hx rfl (hb hby at_43) rfl (l' := #[vI p1, vI p2, vI 0, vR s_EQUAL, vI v4, vI (-v4), vI 0, vI (own_adm_0 v4), .unset]) rfl ?_
      show Steps _ _ _ (T8.setTop (mkF m 45 #[vI p1, vI p2, vI 0, vR s_EQUAL, vI v4, vI (-v4), vI 0, vI (own_adm_0 v4), .unset] [])) _
      refine XS.aloadN X8.here hx rfl (hb hby at_45) rfl rfl ?_
      show Steps _ _ _ (T8.setTop (mkF m 46 #[vI p1, vI p2, vI 0, vR s_EQUAL, vI v4, vI (-v4), vI 0, vI (own_adm_0 v4), .unset] [iR s_EQUAL])) _
      refine XS.iload X8.here hx rfl (hb hby at_46) rfl ?_
      show Steps _ _ _ (T8.setTop (mkF m 48 #[vI p1, vI p2, vI 0, vR s_EQUAL, vI v4, vI (-v4), vI 0, vI (own_adm_0 v4), .unset] [iI (-v4), iR s_EQUAL])) _
      refine st9.trans ?_
      show Steps _ _ _ (T9.setTop (mkF m 51 #[vI p1, vI p2, vI 0, vR s_EQUAL, vI v4, vI (-v4), vI 0, vI (own_adm_0 v4), .unset] [iI (own_adm_0 (-v4))])) _
      refine XS.ifNo X9.here hx rfl (hb hby at_51) rfl ((if0 _ _).trans (teq hh10).2) ?_
      show Steps _ _ _ (T9.setTop (mkF m 54 #[vI p1, vI p2, vI 0, vR s_EQUAL, vI v4, vI (-v4), vI 0, vI (own_adm_0 v4), .unset] [])) _
      refine XS.iconst X9.here hx rfl (hb hby at_54) ?_
      show Steps _ _ _ (T9.setTop (mkF m 55 #[vI p1, vI p2, vI 0, vR s_EQUAL, vI v4, vI (-v4), vI 0, vI (own_adm_0 v4), .unset] [iI 1])) _
      refine XS.goto X9.here hx rfl (pc0 := 55) (pc' := 59) rfl (hb hby at_55) (by decide) (by decide) ?_
      show Steps _ _ _ (T9.setTop (mkF m 59 #[vI p1, vI p2, vI 0, vR s_EQUAL, vI v4, vI (-v4), vI 0, vI (own_adm_0 v4), .unset] [iI 1])) _
      refine XS.istore X9.here hx rfl (hb hby at_59) rfl (l' := #[vI p1, vI p2, vI 0, vR s_EQUAL, vI v4, vI (-v4), vI 0, vI (own_adm_0 v4), vI 1]) rfl ?_
      show Steps _ _ _ (T9.setTop (mkF m 61 #[vI p1, vI p2, vI 0, vR s_EQUAL, vI v4, vI (-v4), vI 0, vI (own_adm_0 v4), vI 1] [])) _
      refine XS.iload X9.here hx rfl (hb hby at_61) rfl ?_
      show Steps _ _ _ (T9.setTop (mkF m 63 #[vI p1, vI p2, vI 0, vR s_EQUAL, vI v4, vI (-v4), vI 0, vI (own_adm_0 v4), vI 1] [iI 0])) _
      refine XS.iload X9.here hx rfl (hb hby at_63) rfl ?_
      show Steps _ _ _ (T9.setTop (mkF m 65 #[vI p1, vI p2, vI 0, vR s_EQUAL, vI v4, vI (-v4), vI 0, vI (own_adm_0 v4), vI 1] [iI (own_adm_0 v4), iI 0])) _
      refine XS.ifYes X9.here hx rfl (pc0 := 65) (pc' := 77) rfl (hb hby at_65) rfl ((if0 _ _).trans (teq hh11).1) (by decide) (by decide) ?_
      show Steps _ _ _ (T9.setTop (mkF m 77 #[vI p1, vI p2, vI 0, vR s_EQUAL, vI v4, vI (-v4), vI 0, vI (own_adm_0 v4), vI 1] [iI 0])) _
      refine XS.iconst X9.here hx rfl (hb hby at_77) ?_
      show Steps _ _ _ (T9.setTop (mkF m 78 #[vI p1, vI p2, vI 0, vR s_EQUAL, vI v4, vI (-v4), vI 0, vI (own_adm_0 v4), vI 1] [iI 0, iI 0])) _
      refine XS.icmpNo X9.here hx rfl (hb hby at_78) rfl (teq (by decide : (0 : Int32) = (0 : Int32))).2 ?_
      show Steps _ _ _ (T9.setTop (mkF m 81 #[vI p1, vI p2, vI 0, vR s_EQUAL, vI v4, vI (-v4), vI 0, vI (own_adm_0 v4), vI 1] [])) _
      refine XS.iconst X9.here hx rfl (hb hby at_81) ?_
      show Steps _ _ _ (T9.setTop (mkF m 82 #[vI p1, vI p2, vI 0, vR s_EQUAL, vI v4, vI (-v4), vI 0, vI (own_adm_0 v4), vI 1] [iI 1])) _
      refine XS.goto X9.here hx rfl (pc0 := 82) (pc' := 86) rfl (hb hby at_82) (by decide) (by decide) ?_
      show Steps _ _ _ (T9.setTop (mkF m 86 #[vI p1, vI p2, vI 0, vR s_EQUAL, vI v4, vI (-v4), vI 0, vI (own_adm_0 v4), vI 1] [iI 1])) _
      exact retN X9 hx (t := .boolean) Bd.returns (by simp) (hb hby at_86) hr
    · show Q0 Z p1 p2 s_EQUAL s_GREATER s_GREATER_OR_EQUAL s_LESS s_LESS_OR_EQUAL h0 _ T9.heap _
      rw [e9]
      exact ⟨rfl, rfl, rfl⟩
  · obtain ⟨_, _, ⟨T12, L12, k12, n12⟩, -, X12, ⟨Lc12, hQ12, l12, y12, z12⟩, st12⟩ := Jvm.LawKit.callS X0 hx (y := (⟨"com/example/columngen/columngen/workload/OperatorIsLowerBoundPinLaw", "pick", "(I)Lcom/example/columngen/columngen/workload/Predicate$Operator;"⟩ : MethodName)) hown (mvT hZ (hw _ (List.mem_of_getElem? (i := 1) rfl))) (mvT hZ (hw _ (List.mem_of_getElem? (i := 2) rfl))) (mvT hZ (hw _ (List.mem_of_getElem? (i := 3) rfl))) (mvT hZ (hw _ (List.mem_of_getElem? (i := 4) rfl))) (by decide) (backOf (W := 0) (rm1_1 l Z a0 hw []  s_EQUAL s_GREATER s_GREATER_OR_EQUAL s_LESS s_LESS_OR_EQUAL h0 S_EQUAL E_EQUAL S_GREATER E_GREATER F_ordinal_EQUAL F_ordinal_GREATER S_GREATER_OR_EQUAL E_GREATER_OR_EQUAL F_ordinal_GREATER_OR_EQUAL S_LESS E_LESS F_ordinal_LESS S_LESS_OR_EQUAL E_LESS_OR_EQUAL F_ordinal_LESS_OR_EQUAL) hZ (hw _ (List.mem_of_getElem? (i := 4) rfl)) (hw _ (List.mem_of_getElem? (i := 3) rfl)) (by decide) (by decide)) (g := (mkF m 8 #[vI p1, vI p2, vI 1, .unset, .unset, .unset, .unset, .unset, .unset] [iI 1])) rfl (by rw [hml]; rfl) (argsL := [(.int (1 : Int32))]) (rest := []) (lenOf pd_1 rfl) rfl (by show 2 * 0 + _ ≤ _; exact Nat.le_of_eq rfl) (hb hby at_8) (fun _ _ => ⟨rfl, e0, (by decide : 0 + 0 ≤ _), (by decide : 0 + 0 ≤ _)⟩)
    dsimp only [Pt.U, Pt.locs, Pt.cells, Pt.slots] at X12 l12 y12 z12 st12 hQ12
    subst l12 y12 z12
    obtain ⟨rfl, rfl, e12⟩ := hQ12
    try rw [List.append_nil] at X12
    obtain ⟨v13, hv13⟩ : ∃ z : Int32, z = (if (p2 &&& (2147483647 : Int32)) = (0 : Int32) then (1 : Int32) else (p2 &&& (2147483647 : Int32))) := ⟨_, rfl⟩
    obtain ⟨T14, X14, e14, st14⟩ : own_Mid X12 h0 (mkF m 20 #[vI p1, vI p2, vI 1, vR s_LESS, vI (p2 &&& (2147483647 : Int32)), .unset, .unset, .unset, .unset] [iI (p2 &&& (2147483647 : Int32))]) (mkF m 26 #[vI p1, vI p2, vI 1, vR s_LESS, vI v13, .unset, .unset, .unset, .unset] []) := by
      by_cases hc15 : (p2 &&& (2147483647 : Int32)) = (0 : Int32)
      · refine ⟨T12, X12, e12, fun t kt => ?_⟩
        subst hv13
        simp only [if_pos hc15] at kt
        show Steps _ _ _ (T12.setTop (mkF m 20 #[vI p1, vI p2, vI 1, vR s_LESS, vI (p2 &&& (2147483647 : Int32)), .unset, .unset, .unset, .unset] [iI (p2 &&& (2147483647 : Int32))])) _
        refine XS.ifNo X12.here hx rfl (hb hby at_20) rfl ((if0 _ _).trans (teq hc15).2) ?_
        show Steps _ _ _ (T12.setTop (mkF m 23 #[vI p1, vI p2, vI 1, vR s_LESS, vI (p2 &&& (2147483647 : Int32)), .unset, .unset, .unset, .unset] [])) _
        refine XS.iconst X12.here hx rfl (hb hby at_23) ?_
        show Steps _ _ _ (T12.setTop (mkF m 24 #[vI p1, vI p2, vI 1, vR s_LESS, vI (p2 &&& (2147483647 : Int32)), .unset, .unset, .unset, .unset] [iI 1])) _
        refine XS.istore X12.here hx rfl (hb hby at_24) rfl (l' := #[vI p1, vI p2, vI 1, vR s_LESS, vI 1, .unset, .unset, .unset, .unset]) rfl ?_
        exact kt
      · refine ⟨T12, X12, e12, fun t kt => ?_⟩
        subst hv13
        simp only [if_neg hc15] at kt
        show Steps _ _ _ (T12.setTop (mkF m 20 #[vI p1, vI p2, vI 1, vR s_LESS, vI (p2 &&& (2147483647 : Int32)), .unset, .unset, .unset, .unset] [iI (p2 &&& (2147483647 : Int32))])) _
        refine XS.ifYes X12.here hx rfl (pc0 := 20) (pc' := 26) rfl (hb hby at_20) rfl ((if0 _ _).trans (feq hc15).2) (by decide) (by decide) ?_
        exact kt
    have hpos : 0 < v13.toInt := own_pos p2 v13 hv13
    obtain ⟨cq16, kq16, q16a, q16b, q16c⟩ := isOf hZ e14 E_LESS
    obtain ⟨_, _, ⟨T16, L16, k16, n16⟩, -, X16, ⟨Lc16, hQ16, l16, y16, z16⟩, st16⟩ := X14.virtualBack hx (y := (⟨"com/example/columngen/columngen/workload/Predicate$Operator", "isLowerBound", "()Z"⟩ : MethodName)) (z := (⟨"com/example/columngen/columngen/workload/Predicate$Operator", "isLowerBound", "()Z"⟩ : MethodName)) hown (mvT hZ (hw _ (List.mem_of_getElem? (i := 8) rfl))) (mvT hZ (hw _ (List.mem_of_getElem? (i := 9) rfl))) (notFace_of_selects (args := #[]) (mvT hZ (hw _ (List.mem_of_getElem? (i := 11) rfl)))) (mvT hZ (hw _ (List.mem_of_getElem? (i := 11) rfl))) (mvT hZ (hw _ (List.mem_of_getElem? (i := 10) rfl))) (by decide) (backOf (W := 0) (rm2_1 l Z a0 hw []  s_EQUAL s_GREATER s_GREATER_OR_EQUAL s_LESS s_LESS_OR_EQUAL h0 S_EQUAL E_EQUAL S_GREATER E_GREATER F_ordinal_EQUAL F_ordinal_GREATER S_GREATER_OR_EQUAL E_GREATER_OR_EQUAL F_ordinal_GREATER_OR_EQUAL S_LESS E_LESS F_ordinal_LESS S_LESS_OR_EQUAL E_LESS_OR_EQUAL F_ordinal_LESS_OR_EQUAL) hZ (hw _ (List.mem_of_getElem? (i := 12) rfl)) (hw _ (List.mem_of_getElem? (i := 6) rfl)) (by decide) (by decide)) q16a q16c (g := (mkF m 32 #[vI p1, vI p2, vI 1, vR s_LESS, vI v13, vI (-v13), .unset, .unset, .unset] [iR s_LESS])) rfl (by rw [hml]; rfl) (Steps.refl _) (argsL := []) (rest := []) (lenOf pd_2 rfl) rfl (by show 2 * 0 + _ ≤ _; exact Nat.le_of_eq rfl) (hb hby at_32) (fun _ _ => ⟨rfl, e14, (by decide : 0 + 0 ≤ _), (by decide : 0 + 0 ≤ _)⟩)
    dsimp only [Pt.U, Pt.locs, Pt.cells, Pt.slots] at X16 l16 y16 z16 st16 hQ16
    subst l16 y16 z16
    obtain ⟨rfl, rfl, e16⟩ := hQ16
    try rw [List.append_nil] at X16
    obtain ⟨cq17, kq17, q17a, q17b, q17c⟩ := isOf hZ e16 E_LESS
    obtain ⟨_, _, ⟨T17, L17, k17, n17⟩, -, X17, ⟨Lc17, hQ17, l17, y17, z17⟩, st17⟩ := X16.virtualBack hx (y := (⟨"com/example/columngen/columngen/workload/Predicate$Operator", "admits", "(I)Z"⟩ : MethodName)) (z := (⟨"com/example/columngen/columngen/workload/Predicate$Operator", "admits", "(I)Z"⟩ : MethodName)) hown (mvT hZ (hw _ (List.mem_of_getElem? (i := 17) rfl))) (mvT hZ (hw _ (List.mem_of_getElem? (i := 18) rfl))) (notFace_of_selects (args := #[]) (mvT hZ (hw _ (List.mem_of_getElem? (i := 20) rfl)))) (mvT hZ (hw _ (List.mem_of_getElem? (i := 20) rfl))) (mvT hZ (hw _ (List.mem_of_getElem? (i := 19) rfl))) (by decide) (backOf (W := 0) (rm3_1 l Z a0 hw [] v13 s_EQUAL s_GREATER s_GREATER_OR_EQUAL s_LESS s_LESS_OR_EQUAL h0 S_EQUAL E_EQUAL S_GREATER E_GREATER F_ordinal_EQUAL F_ordinal_GREATER S_GREATER_OR_EQUAL E_GREATER_OR_EQUAL F_ordinal_GREATER_OR_EQUAL S_LESS E_LESS F_ordinal_LESS S_LESS_OR_EQUAL E_LESS_OR_EQUAL F_ordinal_LESS_OR_EQUAL) hZ (hw _ (List.mem_of_getElem? (i := 21) rfl)) (hw _ (List.mem_of_getElem? (i := 6) rfl)) (by decide) (by decide)) q17a q17c (g := (mkF m 40 #[vI p1, vI p2, vI 1, vR s_LESS, vI v13, vI (-v13), vI 0, .unset, .unset] [iI v13, iR s_LESS])) rfl (by rw [hml]; rfl) (Steps.refl _) (argsL := [(.int v13)]) (rest := []) (lenOf pd_3 rfl) rfl (by show 2 * 0 + _ ≤ _; exact Nat.le_of_eq rfl) (hb hby at_40) (fun _ _ => ⟨rfl, e16, (by decide : 0 + 0 ≤ _), (by decide : 0 + 0 ≤ _)⟩)
    dsimp only [Pt.U, Pt.locs, Pt.cells, Pt.slots] at X17 l17 y17 z17 st17 hQ17
    subst l17 y17 z17
    obtain ⟨rfl, rfl, e17⟩ := hQ17
    try rw [List.append_nil] at X17
    obtain ⟨cq18, kq18, q18a, q18b, q18c⟩ := isOf hZ e17 E_LESS
    obtain ⟨_, _, ⟨T18, L18, k18, n18⟩, -, X18, ⟨Lc18, hQ18, l18, y18, z18⟩, st18⟩ := X17.virtualBack hx (y := (⟨"com/example/columngen/columngen/workload/Predicate$Operator", "admits", "(I)Z"⟩ : MethodName)) (z := (⟨"com/example/columngen/columngen/workload/Predicate$Operator", "admits", "(I)Z"⟩ : MethodName)) hown (mvT hZ (hw _ (List.mem_of_getElem? (i := 17) rfl))) (mvT hZ (hw _ (List.mem_of_getElem? (i := 18) rfl))) (notFace_of_selects (args := #[]) (mvT hZ (hw _ (List.mem_of_getElem? (i := 20) rfl)))) (mvT hZ (hw _ (List.mem_of_getElem? (i := 20) rfl))) (mvT hZ (hw _ (List.mem_of_getElem? (i := 19) rfl))) (by decide) (backOf (W := 0) (rm3_1 l Z a0 hw [] (-v13) s_EQUAL s_GREATER s_GREATER_OR_EQUAL s_LESS s_LESS_OR_EQUAL h0 S_EQUAL E_EQUAL S_GREATER E_GREATER F_ordinal_EQUAL F_ordinal_GREATER S_GREATER_OR_EQUAL E_GREATER_OR_EQUAL F_ordinal_GREATER_OR_EQUAL S_LESS E_LESS F_ordinal_LESS S_LESS_OR_EQUAL E_LESS_OR_EQUAL F_ordinal_LESS_OR_EQUAL) hZ (hw _ (List.mem_of_getElem? (i := 21) rfl)) (hw _ (List.mem_of_getElem? (i := 6) rfl)) (by decide) (by decide)) q18a q18c (g := (mkF m 48 #[vI p1, vI p2, vI 1, vR s_LESS, vI v13, vI (-v13), vI 0, vI (own_adm_1 v13), .unset] [iI (-v13), iR s_LESS])) rfl (by rw [hml]; rfl) (Steps.refl _) (argsL := [(.int (-v13))]) (rest := []) (lenOf pd_3 rfl) rfl (by show 2 * 0 + _ ≤ _; exact Nat.le_of_eq rfl) (hb hby at_48) (fun _ _ => ⟨rfl, e17, (by decide : 0 + 0 ≤ _), (by decide : 0 + 0 ≤ _)⟩)
    dsimp only [Pt.U, Pt.locs, Pt.cells, Pt.slots] at X18 l18 y18 z18 st18 hQ18
    subst l18 y18 z18
    obtain ⟨rfl, rfl, e18⟩ := hQ18
    try rw [List.append_nil] at X18
    have hh19 : ¬ ((own_adm_1 (-v13)) = (0 : Int32)) := (by rw [own_neg_1 v13 hpos]; decide)
    have hh20 : (own_adm_1 v13) = (0 : Int32) := own_pos_1 v13 hpos
    obtain ⟨fs, hr, hrun, hended, hW, hsame⟩ := X18.leave (v := some (.int (1 : Int32))) (fun h => by rw [Bd.returns] at h; cases h)
    refine ⟨_, _, pre2 _ ?_, hrun, hended, _, _, rfl, ?_, ⟨_, rfl⟩, hW, hsame.mono (by decide) (by decide)⟩
    · show Steps _ _ _ (s₁.setTop (mkF m 7 #[vI p1, vI p2, vI 1, .unset, .unset, .unset, .unset, .unset, .unset] [])) _
      refine XS.iloadN X0.here hx rfl (hb hby at_7) rfl ?_
      show Steps _ _ _ (s₁.setTop (mkF m 8 #[vI p1, vI p2, vI 1, .unset, .unset, .unset, .unset, .unset, .unset] [iI 1])) _
      refine st12 _ ?_
      show Steps _ _ _ (T12.setTop (mkF m 11 #[vI p1, vI p2, vI 1, .unset, .unset, .unset, .unset, .unset, .unset] [iR s_LESS])) _
      refine XS.astoreN X12.here hx rfl (hb hby at_11) rfl rfl (l' := #[vI p1, vI p2, vI 1, vR s_LESS, .unset, .unset, .unset, .unset, .unset]) rfl ?_
      show Steps _ _ _ (T12.setTop (mkF m 12 #[vI p1, vI p2, vI 1, vR s_LESS, .unset, .unset, .unset, .unset, .unset] [])) _
      refine XS.iloadN X12.here hx rfl (hb hby at_12) rfl ?_
      show Steps _ _ _ (T12.setTop (mkF m 13 #[vI p1, vI p2, vI 1, vR s_LESS, .unset, .unset, .unset, .unset, .unset] [iI p2])) _
      refine X12.ldcInt hx hown (mvT hZ (hw _ (List.mem_of_getElem? (i := 0) rfl))) (g := (mkF m 13 #[vI p1, vI p2, vI 1, vR s_LESS, .unset, .unset, .unset, .unset, .unset] [iI p2])) rfl (hb hby at_13) _ ?_
      show Steps _ _ _ (T12.setTop (mkF m 15 #[vI p1, vI p2, vI 1, vR s_LESS, .unset, .unset, .unset, .unset, .unset] [iI 2147483647, iI p2])) _
      refine XS.iand X12.here hx rfl (hb hby at_15) rfl ?_
      show Steps _ _ _ (T12.setTop (mkF m 16 #[vI p1, vI p2, vI 1, vR s_LESS, .unset, .unset, .unset, .unset, .unset] [iI (p2 &&& (2147483647 : Int32))])) _
      refine XS.istore X12.here hx rfl (hb hby at_16) rfl (l' := #[vI p1, vI p2, vI 1, vR s_LESS, vI (p2 &&& (2147483647 : Int32)), .unset, .unset, .unset, .unset]) rfl ?_
      show Steps _ _ _ (T12.setTop (mkF m 18 #[vI p1, vI p2, vI 1, vR s_LESS, vI (p2 &&& (2147483647 : Int32)), .unset, .unset, .unset, .unset] [])) _
      refine XS.iload X12.here hx rfl (hb hby at_18) rfl ?_
      show Steps _ _ _ (T12.setTop (mkF m 20 #[vI p1, vI p2, vI 1, vR s_LESS, vI (p2 &&& (2147483647 : Int32)), .unset, .unset, .unset, .unset] [iI (p2 &&& (2147483647 : Int32))])) _
      refine st14 _ ?_
      show Steps _ _ _ (T14.setTop (mkF m 26 #[vI p1, vI p2, vI 1, vR s_LESS, vI v13, .unset, .unset, .unset, .unset] [])) _
      refine XS.iload X14.here hx rfl (hb hby at_26) rfl ?_
      show Steps _ _ _ (T14.setTop (mkF m 28 #[vI p1, vI p2, vI 1, vR s_LESS, vI v13, .unset, .unset, .unset, .unset] [iI v13])) _
      refine XS.ineg X14.here hx rfl (hb hby at_28) rfl ?_
      show Steps _ _ _ (T14.setTop (mkF m 29 #[vI p1, vI p2, vI 1, vR s_LESS, vI v13, .unset, .unset, .unset, .unset] [iI (-v13)])) _
      refine XS.istore X14.here hx rfl (hb hby at_29) rfl (l' := #[vI p1, vI p2, vI 1, vR s_LESS, vI v13, vI (-v13), .unset, .unset, .unset]) rfl ?_
      show Steps _ _ _ (T14.setTop (mkF m 31 #[vI p1, vI p2, vI 1, vR s_LESS, vI v13, vI (-v13), .unset, .unset, .unset] [])) _
      refine XS.aloadN X14.here hx rfl (hb hby at_31) rfl rfl ?_
      show Steps _ _ _ (T14.setTop (mkF m 32 #[vI p1, vI p2, vI 1, vR s_LESS, vI v13, vI (-v13), .unset, .unset, .unset] [iR s_LESS])) _
      refine st16.trans ?_
      show Steps _ _ _ (T16.setTop (mkF m 35 #[vI p1, vI p2, vI 1, vR s_LESS, vI v13, vI (-v13), .unset, .unset, .unset] [iI 0])) _
      refine XS.istore X16.here hx rfl (hb hby at_35) rfl (l' := #[vI p1, vI p2, vI 1, vR s_LESS, vI v13, vI (-v13), vI 0, .unset, .unset]) rfl ?_
      show Steps _ _ _ (T16.setTop (mkF m 37 #[vI p1, vI p2, vI 1, vR s_LESS, vI v13, vI (-v13), vI 0, .unset, .unset] [])) _
      refine XS.aloadN X16.here hx rfl (hb hby at_37) rfl rfl ?_
      show Steps _ _ _ (T16.setTop (mkF m 38 #[vI p1, vI p2, vI 1, vR s_LESS, vI v13, vI (-v13), vI 0, .unset, .unset] [iR s_LESS])) _
      refine XS.iload X16.here hx rfl (hb hby at_38) rfl ?_
      show Steps _ _ _ (T16.setTop (mkF m 40 #[vI p1, vI p2, vI 1, vR s_LESS, vI v13, vI (-v13), vI 0, .unset, .unset] [iI v13, iR s_LESS])) _
      refine st17.trans ?_
      show Steps _ _ _ (T17.setTop (mkF m 43 #[vI p1, vI p2, vI 1, vR s_LESS, vI v13, vI (-v13), vI 0, .unset, .unset] [iI (own_adm_1 v13)])) _
      refine XS.istore X17.here hx rfl (hb hby at_43) rfl (l' := #[vI p1, vI p2, vI 1, vR s_LESS, vI v13, vI (-v13), vI 0, vI (own_adm_1 v13), .unset]) rfl ?_
      show Steps _ _ _ (T17.setTop (mkF m 45 #[vI p1, vI p2, vI 1, vR s_LESS, vI v13, vI (-v13), vI 0, vI (own_adm_1 v13), .unset] [])) _
      refine XS.aloadN X17.here hx rfl (hb hby at_45) rfl rfl ?_
      show Steps _ _ _ (T17.setTop (mkF m 46 #[vI p1, vI p2, vI 1, vR s_LESS, vI v13, vI (-v13), vI 0, vI (own_adm_1 v13), .unset] [iR s_LESS])) _
      refine XS.iload X17.here hx rfl (hb hby at_46) rfl ?_
      show Steps _ _ _ (T17.setTop (mkF m 48 #[vI p1, vI p2, vI 1, vR s_LESS, vI v13, vI (-v13), vI 0, vI (own_adm_1 v13), .unset] [iI (-v13), iR s_LESS])) _
      refine st18.trans ?_
      show Steps _ _ _ (T18.setTop (mkF m 51 #[vI p1, vI p2, vI 1, vR s_LESS, vI v13, vI (-v13), vI 0, vI (own_adm_1 v13), .unset] [iI (own_adm_1 (-v13))])) _
      refine XS.ifYes X18.here hx rfl (pc0 := 51) (pc' := 58) rfl (hb hby at_51) rfl ((if0 _ _).trans (feq hh19).2) (by decide) (by decide) ?_
      show Steps _ _ _ (T18.setTop (mkF m 58 #[vI p1, vI p2, vI 1, vR s_LESS, vI v13, vI (-v13), vI 0, vI (own_adm_1 v13), .unset] [])) _
      refine XS.iconst X18.here hx rfl (hb hby at_58) ?_
      show Steps _ _ _ (T18.setTop (mkF m 59 #[vI p1, vI p2, vI 1, vR s_LESS, vI v13, vI (-v13), vI 0, vI (own_adm_1 v13), .unset] [iI 0])) _
      refine XS.istore X18.here hx rfl (hb hby at_59) rfl (l' := #[vI p1, vI p2, vI 1, vR s_LESS, vI v13, vI (-v13), vI 0, vI (own_adm_1 v13), vI 0]) rfl ?_
      show Steps _ _ _ (T18.setTop (mkF m 61 #[vI p1, vI p2, vI 1, vR s_LESS, vI v13, vI (-v13), vI 0, vI (own_adm_1 v13), vI 0] [])) _
      refine XS.iload X18.here hx rfl (hb hby at_61) rfl ?_
      show Steps _ _ _ (T18.setTop (mkF m 63 #[vI p1, vI p2, vI 1, vR s_LESS, vI v13, vI (-v13), vI 0, vI (own_adm_1 v13), vI 0] [iI 0])) _
      refine XS.iload X18.here hx rfl (hb hby at_63) rfl ?_
      show Steps _ _ _ (T18.setTop (mkF m 65 #[vI p1, vI p2, vI 1, vR s_LESS, vI v13, vI (-v13), vI 0, vI (own_adm_1 v13), vI 0] [iI (own_adm_1 v13), iI 0])) _
      refine XS.ifYes X18.here hx rfl (pc0 := 65) (pc' := 77) rfl (hb hby at_65) rfl ((if0 _ _).trans (teq hh20).1) (by decide) (by decide) ?_
      show Steps _ _ _ (T18.setTop (mkF m 77 #[vI p1, vI p2, vI 1, vR s_LESS, vI v13, vI (-v13), vI 0, vI (own_adm_1 v13), vI 0] [iI 0])) _
      refine XS.iconst X18.here hx rfl (hb hby at_77) ?_
      show Steps _ _ _ (T18.setTop (mkF m 78 #[vI p1, vI p2, vI 1, vR s_LESS, vI v13, vI (-v13), vI 0, vI (own_adm_1 v13), vI 0] [iI 0, iI 0])) _
      refine XS.icmpNo X18.here hx rfl (hb hby at_78) rfl (teq (by decide : (0 : Int32) = (0 : Int32))).2 ?_
      show Steps _ _ _ (T18.setTop (mkF m 81 #[vI p1, vI p2, vI 1, vR s_LESS, vI v13, vI (-v13), vI 0, vI (own_adm_1 v13), vI 0] [])) _
      refine XS.iconst X18.here hx rfl (hb hby at_81) ?_
      show Steps _ _ _ (T18.setTop (mkF m 82 #[vI p1, vI p2, vI 1, vR s_LESS, vI v13, vI (-v13), vI 0, vI (own_adm_1 v13), vI 0] [iI 1])) _
      refine XS.goto X18.here hx rfl (pc0 := 82) (pc' := 86) rfl (hb hby at_82) (by decide) (by decide) ?_
      show Steps _ _ _ (T18.setTop (mkF m 86 #[vI p1, vI p2, vI 1, vR s_LESS, vI v13, vI (-v13), vI 0, vI (own_adm_1 v13), vI 0] [iI 1])) _
      exact retN X18 hx (t := .boolean) Bd.returns (by simp) (hb hby at_86) hr
    · show Q0 Z p1 p2 s_EQUAL s_GREATER s_GREATER_OR_EQUAL s_LESS s_LESS_OR_EQUAL h0 _ T18.heap _
      rw [e18]
      exact ⟨rfl, rfl, rfl⟩
  · obtain ⟨_, _, ⟨T21, L21, k21, n21⟩, -, X21, ⟨Lc21, hQ21, l21, y21, z21⟩, st21⟩ := Jvm.LawKit.callS X0 hx (y := (⟨"com/example/columngen/columngen/workload/OperatorIsLowerBoundPinLaw", "pick", "(I)Lcom/example/columngen/columngen/workload/Predicate$Operator;"⟩ : MethodName)) hown (mvT hZ (hw _ (List.mem_of_getElem? (i := 1) rfl))) (mvT hZ (hw _ (List.mem_of_getElem? (i := 2) rfl))) (mvT hZ (hw _ (List.mem_of_getElem? (i := 3) rfl))) (mvT hZ (hw _ (List.mem_of_getElem? (i := 4) rfl))) (by decide) (backOf (W := 0) (rm1_2 l Z a0 hw []  s_EQUAL s_GREATER s_GREATER_OR_EQUAL s_LESS s_LESS_OR_EQUAL h0 S_EQUAL E_EQUAL S_GREATER E_GREATER F_ordinal_EQUAL F_ordinal_GREATER S_GREATER_OR_EQUAL E_GREATER_OR_EQUAL F_ordinal_GREATER_OR_EQUAL S_LESS E_LESS F_ordinal_LESS S_LESS_OR_EQUAL E_LESS_OR_EQUAL F_ordinal_LESS_OR_EQUAL) hZ (hw _ (List.mem_of_getElem? (i := 4) rfl)) (hw _ (List.mem_of_getElem? (i := 3) rfl)) (by decide) (by decide)) (g := (mkF m 8 #[vI p1, vI p2, vI 2, .unset, .unset, .unset, .unset, .unset, .unset] [iI 2])) rfl (by rw [hml]; rfl) (argsL := [(.int (2 : Int32))]) (rest := []) (lenOf pd_1 rfl) rfl (by show 2 * 0 + _ ≤ _; exact Nat.le_of_eq rfl) (hb hby at_8) (fun _ _ => ⟨rfl, e0, (by decide : 0 + 0 ≤ _), (by decide : 0 + 0 ≤ _)⟩)
    dsimp only [Pt.U, Pt.locs, Pt.cells, Pt.slots] at X21 l21 y21 z21 st21 hQ21
    subst l21 y21 z21
    obtain ⟨rfl, rfl, e21⟩ := hQ21
    try rw [List.append_nil] at X21
    obtain ⟨v22, hv22⟩ : ∃ z : Int32, z = (if (p2 &&& (2147483647 : Int32)) = (0 : Int32) then (1 : Int32) else (p2 &&& (2147483647 : Int32))) := ⟨_, rfl⟩
    obtain ⟨T23, X23, e23, st23⟩ : own_Mid X21 h0 (mkF m 20 #[vI p1, vI p2, vI 2, vR s_LESS_OR_EQUAL, vI (p2 &&& (2147483647 : Int32)), .unset, .unset, .unset, .unset] [iI (p2 &&& (2147483647 : Int32))]) (mkF m 26 #[vI p1, vI p2, vI 2, vR s_LESS_OR_EQUAL, vI v22, .unset, .unset, .unset, .unset] []) := by
      by_cases hc24 : (p2 &&& (2147483647 : Int32)) = (0 : Int32)
      · refine ⟨T21, X21, e21, fun t kt => ?_⟩
        subst hv22
        simp only [if_pos hc24] at kt
        show Steps _ _ _ (T21.setTop (mkF m 20 #[vI p1, vI p2, vI 2, vR s_LESS_OR_EQUAL, vI (p2 &&& (2147483647 : Int32)), .unset, .unset, .unset, .unset] [iI (p2 &&& (2147483647 : Int32))])) _
        refine XS.ifNo X21.here hx rfl (hb hby at_20) rfl ((if0 _ _).trans (teq hc24).2) ?_
        show Steps _ _ _ (T21.setTop (mkF m 23 #[vI p1, vI p2, vI 2, vR s_LESS_OR_EQUAL, vI (p2 &&& (2147483647 : Int32)), .unset, .unset, .unset, .unset] [])) _
        refine XS.iconst X21.here hx rfl (hb hby at_23) ?_
        show Steps _ _ _ (T21.setTop (mkF m 24 #[vI p1, vI p2, vI 2, vR s_LESS_OR_EQUAL, vI (p2 &&& (2147483647 : Int32)), .unset, .unset, .unset, .unset] [iI 1])) _
        refine XS.istore X21.here hx rfl (hb hby at_24) rfl (l' := #[vI p1, vI p2, vI 2, vR s_LESS_OR_EQUAL, vI 1, .unset, .unset, .unset, .unset]) rfl ?_
        exact kt
      · refine ⟨T21, X21, e21, fun t kt => ?_⟩
        subst hv22
        simp only [if_neg hc24] at kt
        show Steps _ _ _ (T21.setTop (mkF m 20 #[vI p1, vI p2, vI 2, vR s_LESS_OR_EQUAL, vI (p2 &&& (2147483647 : Int32)), .unset, .unset, .unset, .unset] [iI (p2 &&& (2147483647 : Int32))])) _
        refine XS.ifYes X21.here hx rfl (pc0 := 20) (pc' := 26) rfl (hb hby at_20) rfl ((if0 _ _).trans (feq hc24).2) (by decide) (by decide) ?_
        exact kt
    have hpos : 0 < v22.toInt := own_pos p2 v22 hv22
    obtain ⟨cq25, kq25, q25a, q25b, q25c⟩ := isOf hZ e23 E_LESS_OR_EQUAL
    obtain ⟨_, _, ⟨T25, L25, k25, n25⟩, -, X25, ⟨Lc25, hQ25, l25, y25, z25⟩, st25⟩ := X23.virtualBack hx (y := (⟨"com/example/columngen/columngen/workload/Predicate$Operator", "isLowerBound", "()Z"⟩ : MethodName)) (z := (⟨"com/example/columngen/columngen/workload/Predicate$Operator", "isLowerBound", "()Z"⟩ : MethodName)) hown (mvT hZ (hw _ (List.mem_of_getElem? (i := 8) rfl))) (mvT hZ (hw _ (List.mem_of_getElem? (i := 9) rfl))) (notFace_of_selects (args := #[]) (mvT hZ (hw _ (List.mem_of_getElem? (i := 11) rfl)))) (mvT hZ (hw _ (List.mem_of_getElem? (i := 11) rfl))) (mvT hZ (hw _ (List.mem_of_getElem? (i := 10) rfl))) (by decide) (backOf (W := 0) (rm2_2 l Z a0 hw []  s_EQUAL s_GREATER s_GREATER_OR_EQUAL s_LESS s_LESS_OR_EQUAL h0 S_EQUAL E_EQUAL S_GREATER E_GREATER F_ordinal_EQUAL F_ordinal_GREATER S_GREATER_OR_EQUAL E_GREATER_OR_EQUAL F_ordinal_GREATER_OR_EQUAL S_LESS E_LESS F_ordinal_LESS S_LESS_OR_EQUAL E_LESS_OR_EQUAL F_ordinal_LESS_OR_EQUAL) hZ (hw _ (List.mem_of_getElem? (i := 12) rfl)) (hw _ (List.mem_of_getElem? (i := 6) rfl)) (by decide) (by decide)) q25a q25c (g := (mkF m 32 #[vI p1, vI p2, vI 2, vR s_LESS_OR_EQUAL, vI v22, vI (-v22), .unset, .unset, .unset] [iR s_LESS_OR_EQUAL])) rfl (by rw [hml]; rfl) (Steps.refl _) (argsL := []) (rest := []) (lenOf pd_2 rfl) rfl (by show 2 * 0 + _ ≤ _; exact Nat.le_of_eq rfl) (hb hby at_32) (fun _ _ => ⟨rfl, e23, (by decide : 0 + 0 ≤ _), (by decide : 0 + 0 ≤ _)⟩)
    dsimp only [Pt.U, Pt.locs, Pt.cells, Pt.slots] at X25 l25 y25 z25 st25 hQ25
    subst l25 y25 z25
    obtain ⟨rfl, rfl, e25⟩ := hQ25
    try rw [List.append_nil] at X25
    obtain ⟨cq26, kq26, q26a, q26b, q26c⟩ := isOf hZ e25 E_LESS_OR_EQUAL
    obtain ⟨_, _, ⟨T26, L26, k26, n26⟩, -, X26, ⟨Lc26, hQ26, l26, y26, z26⟩, st26⟩ := X25.virtualBack hx (y := (⟨"com/example/columngen/columngen/workload/Predicate$Operator", "admits", "(I)Z"⟩ : MethodName)) (z := (⟨"com/example/columngen/columngen/workload/Predicate$Operator", "admits", "(I)Z"⟩ : MethodName)) hown (mvT hZ (hw _ (List.mem_of_getElem? (i := 17) rfl))) (mvT hZ (hw _ (List.mem_of_getElem? (i := 18) rfl))) (notFace_of_selects (args := #[]) (mvT hZ (hw _ (List.mem_of_getElem? (i := 20) rfl)))) (mvT hZ (hw _ (List.mem_of_getElem? (i := 20) rfl))) (mvT hZ (hw _ (List.mem_of_getElem? (i := 19) rfl))) (by decide) (backOf (W := 0) (rm3_2 l Z a0 hw [] v22 s_EQUAL s_GREATER s_GREATER_OR_EQUAL s_LESS s_LESS_OR_EQUAL h0 S_EQUAL E_EQUAL S_GREATER E_GREATER F_ordinal_EQUAL F_ordinal_GREATER S_GREATER_OR_EQUAL E_GREATER_OR_EQUAL F_ordinal_GREATER_OR_EQUAL S_LESS E_LESS F_ordinal_LESS S_LESS_OR_EQUAL E_LESS_OR_EQUAL F_ordinal_LESS_OR_EQUAL) hZ (hw _ (List.mem_of_getElem? (i := 21) rfl)) (hw _ (List.mem_of_getElem? (i := 6) rfl)) (by decide) (by decide)) q26a q26c (g := (mkF m 40 #[vI p1, vI p2, vI 2, vR s_LESS_OR_EQUAL, vI v22, vI (-v22), vI 0, .unset, .unset] [iI v22, iR s_LESS_OR_EQUAL])) rfl (by rw [hml]; rfl) (Steps.refl _) (argsL := [(.int v22)]) (rest := []) (lenOf pd_3 rfl) rfl (by show 2 * 0 + _ ≤ _; exact Nat.le_of_eq rfl) (hb hby at_40) (fun _ _ => ⟨rfl, e25, (by decide : 0 + 0 ≤ _), (by decide : 0 + 0 ≤ _)⟩)
    dsimp only [Pt.U, Pt.locs, Pt.cells, Pt.slots] at X26 l26 y26 z26 st26 hQ26
    subst l26 y26 z26
    obtain ⟨rfl, rfl, e26⟩ := hQ26
    try rw [List.append_nil] at X26
    obtain ⟨cq27, kq27, q27a, q27b, q27c⟩ := isOf hZ e26 E_LESS_OR_EQUAL
    obtain ⟨_, _, ⟨T27, L27, k27, n27⟩, -, X27, ⟨Lc27, hQ27, l27, y27, z27⟩, st27⟩ := X26.virtualBack hx (y := (⟨"com/example/columngen/columngen/workload/Predicate$Operator", "admits", "(I)Z"⟩ : MethodName)) (z := (⟨"com/example/columngen/columngen/workload/Predicate$Operator", "admits", "(I)Z"⟩ : MethodName)) hown (mvT hZ (hw _ (List.mem_of_getElem? (i := 17) rfl))) (mvT hZ (hw _ (List.mem_of_getElem? (i := 18) rfl))) (notFace_of_selects (args := #[]) (mvT hZ (hw _ (List.mem_of_getElem? (i := 20) rfl)))) (mvT hZ (hw _ (List.mem_of_getElem? (i := 20) rfl))) (mvT hZ (hw _ (List.mem_of_getElem? (i := 19) rfl))) (by decide) (backOf (W := 0) (rm3_2 l Z a0 hw [] (-v22) s_EQUAL s_GREATER s_GREATER_OR_EQUAL s_LESS s_LESS_OR_EQUAL h0 S_EQUAL E_EQUAL S_GREATER E_GREATER F_ordinal_EQUAL F_ordinal_GREATER S_GREATER_OR_EQUAL E_GREATER_OR_EQUAL F_ordinal_GREATER_OR_EQUAL S_LESS E_LESS F_ordinal_LESS S_LESS_OR_EQUAL E_LESS_OR_EQUAL F_ordinal_LESS_OR_EQUAL) hZ (hw _ (List.mem_of_getElem? (i := 21) rfl)) (hw _ (List.mem_of_getElem? (i := 6) rfl)) (by decide) (by decide)) q27a q27c (g := (mkF m 48 #[vI p1, vI p2, vI 2, vR s_LESS_OR_EQUAL, vI v22, vI (-v22), vI 0, vI (own_adm_2 v22), .unset] [iI (-v22), iR s_LESS_OR_EQUAL])) rfl (by rw [hml]; rfl) (Steps.refl _) (argsL := [(.int (-v22))]) (rest := []) (lenOf pd_3 rfl) rfl (by show 2 * 0 + _ ≤ _; exact Nat.le_of_eq rfl) (hb hby at_48) (fun _ _ => ⟨rfl, e26, (by decide : 0 + 0 ≤ _), (by decide : 0 + 0 ≤ _)⟩)
    dsimp only [Pt.U, Pt.locs, Pt.cells, Pt.slots] at X27 l27 y27 z27 st27 hQ27
    subst l27 y27 z27
    obtain ⟨rfl, rfl, e27⟩ := hQ27
    try rw [List.append_nil] at X27
    have hh28 : ¬ ((own_adm_2 (-v22)) = (0 : Int32)) := (by rw [own_neg_2 v22 hpos]; decide)
    have hh29 : (own_adm_2 v22) = (0 : Int32) := own_pos_2 v22 hpos
    obtain ⟨fs, hr, hrun, hended, hW, hsame⟩ := X27.leave (v := some (.int (1 : Int32))) (fun h => by rw [Bd.returns] at h; cases h)
    refine ⟨_, _, pre2 _ ?_, hrun, hended, _, _, rfl, ?_, ⟨_, rfl⟩, hW, hsame.mono (by decide) (by decide)⟩
    · show Steps _ _ _ (s₁.setTop (mkF m 7 #[vI p1, vI p2, vI 2, .unset, .unset, .unset, .unset, .unset, .unset] [])) _
      refine XS.iloadN X0.here hx rfl (hb hby at_7) rfl ?_
      show Steps _ _ _ (s₁.setTop (mkF m 8 #[vI p1, vI p2, vI 2, .unset, .unset, .unset, .unset, .unset, .unset] [iI 2])) _
      refine st21 _ ?_
      show Steps _ _ _ (T21.setTop (mkF m 11 #[vI p1, vI p2, vI 2, .unset, .unset, .unset, .unset, .unset, .unset] [iR s_LESS_OR_EQUAL])) _
      refine XS.astoreN X21.here hx rfl (hb hby at_11) rfl rfl (l' := #[vI p1, vI p2, vI 2, vR s_LESS_OR_EQUAL, .unset, .unset, .unset, .unset, .unset]) rfl ?_
      show Steps _ _ _ (T21.setTop (mkF m 12 #[vI p1, vI p2, vI 2, vR s_LESS_OR_EQUAL, .unset, .unset, .unset, .unset, .unset] [])) _
      refine XS.iloadN X21.here hx rfl (hb hby at_12) rfl ?_
      show Steps _ _ _ (T21.setTop (mkF m 13 #[vI p1, vI p2, vI 2, vR s_LESS_OR_EQUAL, .unset, .unset, .unset, .unset, .unset] [iI p2])) _
      refine X21.ldcInt hx hown (mvT hZ (hw _ (List.mem_of_getElem? (i := 0) rfl))) (g := (mkF m 13 #[vI p1, vI p2, vI 2, vR s_LESS_OR_EQUAL, .unset, .unset, .unset, .unset, .unset] [iI p2])) rfl (hb hby at_13) _ ?_
      show Steps _ _ _ (T21.setTop (mkF m 15 #[vI p1, vI p2, vI 2, vR s_LESS_OR_EQUAL, .unset, .unset, .unset, .unset, .unset] [iI 2147483647, iI p2])) _
      refine XS.iand X21.here hx rfl (hb hby at_15) rfl ?_
      show Steps _ _ _ (T21.setTop (mkF m 16 #[vI p1, vI p2, vI 2, vR s_LESS_OR_EQUAL, .unset, .unset, .unset, .unset, .unset] [iI (p2 &&& (2147483647 : Int32))])) _
      refine XS.istore X21.here hx rfl (hb hby at_16) rfl (l' := #[vI p1, vI p2, vI 2, vR s_LESS_OR_EQUAL, vI (p2 &&& (2147483647 : Int32)), .unset, .unset, .unset, .unset]) rfl ?_
      show Steps _ _ _ (T21.setTop (mkF m 18 #[vI p1, vI p2, vI 2, vR s_LESS_OR_EQUAL, vI (p2 &&& (2147483647 : Int32)), .unset, .unset, .unset, .unset] [])) _
      refine XS.iload X21.here hx rfl (hb hby at_18) rfl ?_
      show Steps _ _ _ (T21.setTop (mkF m 20 #[vI p1, vI p2, vI 2, vR s_LESS_OR_EQUAL, vI (p2 &&& (2147483647 : Int32)), .unset, .unset, .unset, .unset] [iI (p2 &&& (2147483647 : Int32))])) _
      refine st23 _ ?_
      show Steps _ _ _ (T23.setTop (mkF m 26 #[vI p1, vI p2, vI 2, vR s_LESS_OR_EQUAL, vI v22, .unset, .unset, .unset, .unset] [])) _
      refine XS.iload X23.here hx rfl (hb hby at_26) rfl ?_
      show Steps _ _ _ (T23.setTop (mkF m 28 #[vI p1, vI p2, vI 2, vR s_LESS_OR_EQUAL, vI v22, .unset, .unset, .unset, .unset] [iI v22])) _
      refine XS.ineg X23.here hx rfl (hb hby at_28) rfl ?_
      show Steps _ _ _ (T23.setTop (mkF m 29 #[vI p1, vI p2, vI 2, vR s_LESS_OR_EQUAL, vI v22, .unset, .unset, .unset, .unset] [iI (-v22)])) _
      refine XS.istore X23.here hx rfl (hb hby at_29) rfl (l' := #[vI p1, vI p2, vI 2, vR s_LESS_OR_EQUAL, vI v22, vI (-v22), .unset, .unset, .unset]) rfl ?_
      show Steps _ _ _ (T23.setTop (mkF m 31 #[vI p1, vI p2, vI 2, vR s_LESS_OR_EQUAL, vI v22, vI (-v22), .unset, .unset, .unset] [])) _
      refine XS.aloadN X23.here hx rfl (hb hby at_31) rfl rfl ?_
      show Steps _ _ _ (T23.setTop (mkF m 32 #[vI p1, vI p2, vI 2, vR s_LESS_OR_EQUAL, vI v22, vI (-v22), .unset, .unset, .unset] [iR s_LESS_OR_EQUAL])) _
      refine st25.trans ?_
      show Steps _ _ _ (T25.setTop (mkF m 35 #[vI p1, vI p2, vI 2, vR s_LESS_OR_EQUAL, vI v22, vI (-v22), .unset, .unset, .unset] [iI 0])) _
      refine XS.istore X25.here hx rfl (hb hby at_35) rfl (l' := #[vI p1, vI p2, vI 2, vR s_LESS_OR_EQUAL, vI v22, vI (-v22), vI 0, .unset, .unset]) rfl ?_
      show Steps _ _ _ (T25.setTop (mkF m 37 #[vI p1, vI p2, vI 2, vR s_LESS_OR_EQUAL, vI v22, vI (-v22), vI 0, .unset, .unset] [])) _
      refine XS.aloadN X25.here hx rfl (hb hby at_37) rfl rfl ?_
      show Steps _ _ _ (T25.setTop (mkF m 38 #[vI p1, vI p2, vI 2, vR s_LESS_OR_EQUAL, vI v22, vI (-v22), vI 0, .unset, .unset] [iR s_LESS_OR_EQUAL])) _
      refine XS.iload X25.here hx rfl (hb hby at_38) rfl ?_
      show Steps _ _ _ (T25.setTop (mkF m 40 #[vI p1, vI p2, vI 2, vR s_LESS_OR_EQUAL, vI v22, vI (-v22), vI 0, .unset, .unset] [iI v22, iR s_LESS_OR_EQUAL])) _
      refine st26.trans ?_
      show Steps _ _ _ (T26.setTop (mkF m 43 #[vI p1, vI p2, vI 2, vR s_LESS_OR_EQUAL, vI v22, vI (-v22), vI 0, .unset, .unset] [iI (own_adm_2 v22)])) _
      refine XS.istore X26.here hx rfl (hb hby at_43) rfl (l' := #[vI p1, vI p2, vI 2, vR s_LESS_OR_EQUAL, vI v22, vI (-v22), vI 0, vI (own_adm_2 v22), .unset]) rfl ?_
      show Steps _ _ _ (T26.setTop (mkF m 45 #[vI p1, vI p2, vI 2, vR s_LESS_OR_EQUAL, vI v22, vI (-v22), vI 0, vI (own_adm_2 v22), .unset] [])) _
      refine XS.aloadN X26.here hx rfl (hb hby at_45) rfl rfl ?_
      show Steps _ _ _ (T26.setTop (mkF m 46 #[vI p1, vI p2, vI 2, vR s_LESS_OR_EQUAL, vI v22, vI (-v22), vI 0, vI (own_adm_2 v22), .unset] [iR s_LESS_OR_EQUAL])) _
      refine XS.iload X26.here hx rfl (hb hby at_46) rfl ?_
      show Steps _ _ _ (T26.setTop (mkF m 48 #[vI p1, vI p2, vI 2, vR s_LESS_OR_EQUAL, vI v22, vI (-v22), vI 0, vI (own_adm_2 v22), .unset] [iI (-v22), iR s_LESS_OR_EQUAL])) _
      refine st27.trans ?_
      show Steps _ _ _ (T27.setTop (mkF m 51 #[vI p1, vI p2, vI 2, vR s_LESS_OR_EQUAL, vI v22, vI (-v22), vI 0, vI (own_adm_2 v22), .unset] [iI (own_adm_2 (-v22))])) _
      refine XS.ifYes X27.here hx rfl (pc0 := 51) (pc' := 58) rfl (hb hby at_51) rfl ((if0 _ _).trans (feq hh28).2) (by decide) (by decide) ?_
      show Steps _ _ _ (T27.setTop (mkF m 58 #[vI p1, vI p2, vI 2, vR s_LESS_OR_EQUAL, vI v22, vI (-v22), vI 0, vI (own_adm_2 v22), .unset] [])) _
      refine XS.iconst X27.here hx rfl (hb hby at_58) ?_
      show Steps _ _ _ (T27.setTop (mkF m 59 #[vI p1, vI p2, vI 2, vR s_LESS_OR_EQUAL, vI v22, vI (-v22), vI 0, vI (own_adm_2 v22), .unset] [iI 0])) _
      refine XS.istore X27.here hx rfl (hb hby at_59) rfl (l' := #[vI p1, vI p2, vI 2, vR s_LESS_OR_EQUAL, vI v22, vI (-v22), vI 0, vI (own_adm_2 v22), vI 0]) rfl ?_
      show Steps _ _ _ (T27.setTop (mkF m 61 #[vI p1, vI p2, vI 2, vR s_LESS_OR_EQUAL, vI v22, vI (-v22), vI 0, vI (own_adm_2 v22), vI 0] [])) _
      refine XS.iload X27.here hx rfl (hb hby at_61) rfl ?_
      show Steps _ _ _ (T27.setTop (mkF m 63 #[vI p1, vI p2, vI 2, vR s_LESS_OR_EQUAL, vI v22, vI (-v22), vI 0, vI (own_adm_2 v22), vI 0] [iI 0])) _
      refine XS.iload X27.here hx rfl (hb hby at_63) rfl ?_
      show Steps _ _ _ (T27.setTop (mkF m 65 #[vI p1, vI p2, vI 2, vR s_LESS_OR_EQUAL, vI v22, vI (-v22), vI 0, vI (own_adm_2 v22), vI 0] [iI (own_adm_2 v22), iI 0])) _
      refine XS.ifYes X27.here hx rfl (pc0 := 65) (pc' := 77) rfl (hb hby at_65) rfl ((if0 _ _).trans (teq hh29).1) (by decide) (by decide) ?_
      show Steps _ _ _ (T27.setTop (mkF m 77 #[vI p1, vI p2, vI 2, vR s_LESS_OR_EQUAL, vI v22, vI (-v22), vI 0, vI (own_adm_2 v22), vI 0] [iI 0])) _
      refine XS.iconst X27.here hx rfl (hb hby at_77) ?_
      show Steps _ _ _ (T27.setTop (mkF m 78 #[vI p1, vI p2, vI 2, vR s_LESS_OR_EQUAL, vI v22, vI (-v22), vI 0, vI (own_adm_2 v22), vI 0] [iI 0, iI 0])) _
      refine XS.icmpNo X27.here hx rfl (hb hby at_78) rfl (teq (by decide : (0 : Int32) = (0 : Int32))).2 ?_
      show Steps _ _ _ (T27.setTop (mkF m 81 #[vI p1, vI p2, vI 2, vR s_LESS_OR_EQUAL, vI v22, vI (-v22), vI 0, vI (own_adm_2 v22), vI 0] [])) _
      refine XS.iconst X27.here hx rfl (hb hby at_81) ?_
      show Steps _ _ _ (T27.setTop (mkF m 82 #[vI p1, vI p2, vI 2, vR s_LESS_OR_EQUAL, vI v22, vI (-v22), vI 0, vI (own_adm_2 v22), vI 0] [iI 1])) _
      refine XS.goto X27.here hx rfl (pc0 := 82) (pc' := 86) rfl (hb hby at_82) (by decide) (by decide) ?_
      show Steps _ _ _ (T27.setTop (mkF m 86 #[vI p1, vI p2, vI 2, vR s_LESS_OR_EQUAL, vI v22, vI (-v22), vI 0, vI (own_adm_2 v22), vI 0] [iI 1])) _
      exact retN X27 hx (t := .boolean) Bd.returns (by simp) (hb hby at_86) hr
    · show Q0 Z p1 p2 s_EQUAL s_GREATER s_GREATER_OR_EQUAL s_LESS s_LESS_OR_EQUAL h0 _ T27.heap _
      rw [e27]
      exact ⟨rfl, rfl, rfl⟩
  · obtain ⟨_, _, ⟨T30, L30, k30, n30⟩, -, X30, ⟨Lc30, hQ30, l30, y30, z30⟩, st30⟩ := Jvm.LawKit.callS X0 hx (y := (⟨"com/example/columngen/columngen/workload/OperatorIsLowerBoundPinLaw", "pick", "(I)Lcom/example/columngen/columngen/workload/Predicate$Operator;"⟩ : MethodName)) hown (mvT hZ (hw _ (List.mem_of_getElem? (i := 1) rfl))) (mvT hZ (hw _ (List.mem_of_getElem? (i := 2) rfl))) (mvT hZ (hw _ (List.mem_of_getElem? (i := 3) rfl))) (mvT hZ (hw _ (List.mem_of_getElem? (i := 4) rfl))) (by decide) (backOf (W := 0) (rm1_3 l Z a0 hw []  s_EQUAL s_GREATER s_GREATER_OR_EQUAL s_LESS s_LESS_OR_EQUAL h0 S_EQUAL E_EQUAL S_GREATER E_GREATER F_ordinal_EQUAL F_ordinal_GREATER S_GREATER_OR_EQUAL E_GREATER_OR_EQUAL F_ordinal_GREATER_OR_EQUAL S_LESS E_LESS F_ordinal_LESS S_LESS_OR_EQUAL E_LESS_OR_EQUAL F_ordinal_LESS_OR_EQUAL) hZ (hw _ (List.mem_of_getElem? (i := 4) rfl)) (hw _ (List.mem_of_getElem? (i := 3) rfl)) (by decide) (by decide)) (g := (mkF m 8 #[vI p1, vI p2, vI 3, .unset, .unset, .unset, .unset, .unset, .unset] [iI 3])) rfl (by rw [hml]; rfl) (argsL := [(.int (3 : Int32))]) (rest := []) (lenOf pd_1 rfl) rfl (by show 2 * 0 + _ ≤ _; exact Nat.le_of_eq rfl) (hb hby at_8) (fun _ _ => ⟨rfl, e0, (by decide : 0 + 0 ≤ _), (by decide : 0 + 0 ≤ _)⟩)
    dsimp only [Pt.U, Pt.locs, Pt.cells, Pt.slots] at X30 l30 y30 z30 st30 hQ30
    subst l30 y30 z30
    obtain ⟨rfl, rfl, e30⟩ := hQ30
    try rw [List.append_nil] at X30
    obtain ⟨v31, hv31⟩ : ∃ z : Int32, z = (if (p2 &&& (2147483647 : Int32)) = (0 : Int32) then (1 : Int32) else (p2 &&& (2147483647 : Int32))) := ⟨_, rfl⟩
    obtain ⟨T32, X32, e32, st32⟩ : own_Mid X30 h0 (mkF m 20 #[vI p1, vI p2, vI 3, vR s_GREATER, vI (p2 &&& (2147483647 : Int32)), .unset, .unset, .unset, .unset] [iI (p2 &&& (2147483647 : Int32))]) (mkF m 26 #[vI p1, vI p2, vI 3, vR s_GREATER, vI v31, .unset, .unset, .unset, .unset] []) := by
      by_cases hc33 : (p2 &&& (2147483647 : Int32)) = (0 : Int32)
      · refine ⟨T30, X30, e30, fun t kt => ?_⟩
        subst hv31
        simp only [if_pos hc33] at kt
        show Steps _ _ _ (T30.setTop (mkF m 20 #[vI p1, vI p2, vI 3, vR s_GREATER, vI (p2 &&& (2147483647 : Int32)), .unset, .unset, .unset, .unset] [iI (p2 &&& (2147483647 : Int32))])) _
        refine XS.ifNo X30.here hx rfl (hb hby at_20) rfl ((if0 _ _).trans (teq hc33).2) ?_
        show Steps _ _ _ (T30.setTop (mkF m 23 #[vI p1, vI p2, vI 3, vR s_GREATER, vI (p2 &&& (2147483647 : Int32)), .unset, .unset, .unset, .unset] [])) _
        refine XS.iconst X30.here hx rfl (hb hby at_23) ?_
        show Steps _ _ _ (T30.setTop (mkF m 24 #[vI p1, vI p2, vI 3, vR s_GREATER, vI (p2 &&& (2147483647 : Int32)), .unset, .unset, .unset, .unset] [iI 1])) _
        refine XS.istore X30.here hx rfl (hb hby at_24) rfl (l' := #[vI p1, vI p2, vI 3, vR s_GREATER, vI 1, .unset, .unset, .unset, .unset]) rfl ?_
        exact kt
      · refine ⟨T30, X30, e30, fun t kt => ?_⟩
        subst hv31
        simp only [if_neg hc33] at kt
        show Steps _ _ _ (T30.setTop (mkF m 20 #[vI p1, vI p2, vI 3, vR s_GREATER, vI (p2 &&& (2147483647 : Int32)), .unset, .unset, .unset, .unset] [iI (p2 &&& (2147483647 : Int32))])) _
        refine XS.ifYes X30.here hx rfl (pc0 := 20) (pc' := 26) rfl (hb hby at_20) rfl ((if0 _ _).trans (feq hc33).2) (by decide) (by decide) ?_
        exact kt
    have hpos : 0 < v31.toInt := own_pos p2 v31 hv31
    obtain ⟨cq34, kq34, q34a, q34b, q34c⟩ := isOf hZ e32 E_GREATER
    obtain ⟨_, _, ⟨T34, L34, k34, n34⟩, -, X34, ⟨Lc34, hQ34, l34, y34, z34⟩, st34⟩ := X32.virtualBack hx (y := (⟨"com/example/columngen/columngen/workload/Predicate$Operator", "isLowerBound", "()Z"⟩ : MethodName)) (z := (⟨"com/example/columngen/columngen/workload/Predicate$Operator", "isLowerBound", "()Z"⟩ : MethodName)) hown (mvT hZ (hw _ (List.mem_of_getElem? (i := 8) rfl))) (mvT hZ (hw _ (List.mem_of_getElem? (i := 9) rfl))) (notFace_of_selects (args := #[]) (mvT hZ (hw _ (List.mem_of_getElem? (i := 11) rfl)))) (mvT hZ (hw _ (List.mem_of_getElem? (i := 11) rfl))) (mvT hZ (hw _ (List.mem_of_getElem? (i := 10) rfl))) (by decide) (backOf (W := 0) (rm2_3 l Z a0 hw []  s_EQUAL s_GREATER s_GREATER_OR_EQUAL s_LESS s_LESS_OR_EQUAL h0 S_EQUAL E_EQUAL S_GREATER E_GREATER F_ordinal_EQUAL F_ordinal_GREATER S_GREATER_OR_EQUAL E_GREATER_OR_EQUAL F_ordinal_GREATER_OR_EQUAL S_LESS E_LESS F_ordinal_LESS S_LESS_OR_EQUAL E_LESS_OR_EQUAL F_ordinal_LESS_OR_EQUAL) hZ (hw _ (List.mem_of_getElem? (i := 12) rfl)) (hw _ (List.mem_of_getElem? (i := 6) rfl)) (by decide) (by decide)) q34a q34c (g := (mkF m 32 #[vI p1, vI p2, vI 3, vR s_GREATER, vI v31, vI (-v31), .unset, .unset, .unset] [iR s_GREATER])) rfl (by rw [hml]; rfl) (Steps.refl _) (argsL := []) (rest := []) (lenOf pd_2 rfl) rfl (by show 2 * 0 + _ ≤ _; exact Nat.le_of_eq rfl) (hb hby at_32) (fun _ _ => ⟨rfl, e32, (by decide : 0 + 0 ≤ _), (by decide : 0 + 0 ≤ _)⟩)
    dsimp only [Pt.U, Pt.locs, Pt.cells, Pt.slots] at X34 l34 y34 z34 st34 hQ34
    subst l34 y34 z34
    obtain ⟨rfl, rfl, e34⟩ := hQ34
    try rw [List.append_nil] at X34
    obtain ⟨cq35, kq35, q35a, q35b, q35c⟩ := isOf hZ e34 E_GREATER
    obtain ⟨_, _, ⟨T35, L35, k35, n35⟩, -, X35, ⟨Lc35, hQ35, l35, y35, z35⟩, st35⟩ := X34.virtualBack hx (y := (⟨"com/example/columngen/columngen/workload/Predicate$Operator", "admits", "(I)Z"⟩ : MethodName)) (z := (⟨"com/example/columngen/columngen/workload/Predicate$Operator", "admits", "(I)Z"⟩ : MethodName)) hown (mvT hZ (hw _ (List.mem_of_getElem? (i := 17) rfl))) (mvT hZ (hw _ (List.mem_of_getElem? (i := 18) rfl))) (notFace_of_selects (args := #[]) (mvT hZ (hw _ (List.mem_of_getElem? (i := 20) rfl)))) (mvT hZ (hw _ (List.mem_of_getElem? (i := 20) rfl))) (mvT hZ (hw _ (List.mem_of_getElem? (i := 19) rfl))) (by decide) (backOf (W := 0) (rm3_3 l Z a0 hw [] v31 s_EQUAL s_GREATER s_GREATER_OR_EQUAL s_LESS s_LESS_OR_EQUAL h0 S_EQUAL E_EQUAL S_GREATER E_GREATER F_ordinal_EQUAL F_ordinal_GREATER S_GREATER_OR_EQUAL E_GREATER_OR_EQUAL F_ordinal_GREATER_OR_EQUAL S_LESS E_LESS F_ordinal_LESS S_LESS_OR_EQUAL E_LESS_OR_EQUAL F_ordinal_LESS_OR_EQUAL) hZ (hw _ (List.mem_of_getElem? (i := 21) rfl)) (hw _ (List.mem_of_getElem? (i := 6) rfl)) (by decide) (by decide)) q35a q35c (g := (mkF m 40 #[vI p1, vI p2, vI 3, vR s_GREATER, vI v31, vI (-v31), vI 1, .unset, .unset] [iI v31, iR s_GREATER])) rfl (by rw [hml]; rfl) (Steps.refl _) (argsL := [(.int v31)]) (rest := []) (lenOf pd_3 rfl) rfl (by show 2 * 0 + _ ≤ _; exact Nat.le_of_eq rfl) (hb hby at_40) (fun _ _ => ⟨rfl, e34, (by decide : 0 + 0 ≤ _), (by decide : 0 + 0 ≤ _)⟩)
    dsimp only [Pt.U, Pt.locs, Pt.cells, Pt.slots] at X35 l35 y35 z35 st35 hQ35
    subst l35 y35 z35
    obtain ⟨rfl, rfl, e35⟩ := hQ35
    try rw [List.append_nil] at X35
    obtain ⟨cq36, kq36, q36a, q36b, q36c⟩ := isOf hZ e35 E_GREATER
    obtain ⟨_, _, ⟨T36, L36, k36, n36⟩, -, X36, ⟨Lc36, hQ36, l36, y36, z36⟩, st36⟩ := X35.virtualBack hx (y := (⟨"com/example/columngen/columngen/workload/Predicate$Operator", "admits", "(I)Z"⟩ : MethodName)) (z := (⟨"com/example/columngen/columngen/workload/Predicate$Operator", "admits", "(I)Z"⟩ : MethodName)) hown (mvT hZ (hw _ (List.mem_of_getElem? (i := 17) rfl))) (mvT hZ (hw _ (List.mem_of_getElem? (i := 18) rfl))) (notFace_of_selects (args := #[]) (mvT hZ (hw _ (List.mem_of_getElem? (i := 20) rfl)))) (mvT hZ (hw _ (List.mem_of_getElem? (i := 20) rfl))) (mvT hZ (hw _ (List.mem_of_getElem? (i := 19) rfl))) (by decide) (backOf (W := 0) (rm3_3 l Z a0 hw [] (-v31) s_EQUAL s_GREATER s_GREATER_OR_EQUAL s_LESS s_LESS_OR_EQUAL h0 S_EQUAL E_EQUAL S_GREATER E_GREATER F_ordinal_EQUAL F_ordinal_GREATER S_GREATER_OR_EQUAL E_GREATER_OR_EQUAL F_ordinal_GREATER_OR_EQUAL S_LESS E_LESS F_ordinal_LESS S_LESS_OR_EQUAL E_LESS_OR_EQUAL F_ordinal_LESS_OR_EQUAL) hZ (hw _ (List.mem_of_getElem? (i := 21) rfl)) (hw _ (List.mem_of_getElem? (i := 6) rfl)) (by decide) (by decide)) q36a q36c (g := (mkF m 48 #[vI p1, vI p2, vI 3, vR s_GREATER, vI v31, vI (-v31), vI 1, vI (own_adm_3 v31), .unset] [iI (-v31), iR s_GREATER])) rfl (by rw [hml]; rfl) (Steps.refl _) (argsL := [(.int (-v31))]) (rest := []) (lenOf pd_3 rfl) rfl (by show 2 * 0 + _ ≤ _; exact Nat.le_of_eq rfl) (hb hby at_48) (fun _ _ => ⟨rfl, e35, (by decide : 0 + 0 ≤ _), (by decide : 0 + 0 ≤ _)⟩)
    dsimp only [Pt.U, Pt.locs, Pt.cells, Pt.slots] at X36 l36 y36 z36 st36 hQ36
    subst l36 y36 z36
    obtain ⟨rfl, rfl, e36⟩ := hQ36
    try rw [List.append_nil] at X36
    have hh37 : (own_adm_3 (-v31)) = (0 : Int32) := own_neg_3 v31 hpos
    have hh38 : ¬ ((own_adm_3 v31) = (0 : Int32)) := (by rw [own_pos_3 v31 hpos]; decide)
    obtain ⟨fs, hr, hrun, hended, hW, hsame⟩ := X36.leave (v := some (.int (1 : Int32))) (fun h => by rw [Bd.returns] at h; cases h)
    refine ⟨_, _, pre2 _ ?_, hrun, hended, _, _, rfl, ?_, ⟨_, rfl⟩, hW, hsame.mono (by decide) (by decide)⟩
    · show Steps _ _ _ (s₁.setTop (mkF m 7 #[vI p1, vI p2, vI 3, .unset, .unset, .unset, .unset, .unset, .unset] [])) _
      refine XS.iloadN X0.here hx rfl (hb hby at_7) rfl ?_
      show Steps _ _ _ (s₁.setTop (mkF m 8 #[vI p1, vI p2, vI 3, .unset, .unset, .unset, .unset, .unset, .unset] [iI 3])) _
      refine st30 _ ?_
      show Steps _ _ _ (T30.setTop (mkF m 11 #[vI p1, vI p2, vI 3, .unset, .unset, .unset, .unset, .unset, .unset] [iR s_GREATER])) _
      refine XS.astoreN X30.here hx rfl (hb hby at_11) rfl rfl (l' := #[vI p1, vI p2, vI 3, vR s_GREATER, .unset, .unset, .unset, .unset, .unset]) rfl ?_
      show Steps _ _ _ (T30.setTop (mkF m 12 #[vI p1, vI p2, vI 3, vR s_GREATER, .unset, .unset, .unset, .unset, .unset] [])) _
      refine XS.iloadN X30.here hx rfl (hb hby at_12) rfl ?_
      show Steps _ _ _ (T30.setTop (mkF m 13 #[vI p1, vI p2, vI 3, vR s_GREATER, .unset, .unset, .unset, .unset, .unset] [iI p2])) _
      refine X30.ldcInt hx hown (mvT hZ (hw _ (List.mem_of_getElem? (i := 0) rfl))) (g := (mkF m 13 #[vI p1, vI p2, vI 3, vR s_GREATER, .unset, .unset, .unset, .unset, .unset] [iI p2])) rfl (hb hby at_13) _ ?_
      show Steps _ _ _ (T30.setTop (mkF m 15 #[vI p1, vI p2, vI 3, vR s_GREATER, .unset, .unset, .unset, .unset, .unset] [iI 2147483647, iI p2])) _
      refine XS.iand X30.here hx rfl (hb hby at_15) rfl ?_
      show Steps _ _ _ (T30.setTop (mkF m 16 #[vI p1, vI p2, vI 3, vR s_GREATER, .unset, .unset, .unset, .unset, .unset] [iI (p2 &&& (2147483647 : Int32))])) _
      refine XS.istore X30.here hx rfl (hb hby at_16) rfl (l' := #[vI p1, vI p2, vI 3, vR s_GREATER, vI (p2 &&& (2147483647 : Int32)), .unset, .unset, .unset, .unset]) rfl ?_
      show Steps _ _ _ (T30.setTop (mkF m 18 #[vI p1, vI p2, vI 3, vR s_GREATER, vI (p2 &&& (2147483647 : Int32)), .unset, .unset, .unset, .unset] [])) _
      refine XS.iload X30.here hx rfl (hb hby at_18) rfl ?_
      show Steps _ _ _ (T30.setTop (mkF m 20 #[vI p1, vI p2, vI 3, vR s_GREATER, vI (p2 &&& (2147483647 : Int32)), .unset, .unset, .unset, .unset] [iI (p2 &&& (2147483647 : Int32))])) _
      refine st32 _ ?_
      show Steps _ _ _ (T32.setTop (mkF m 26 #[vI p1, vI p2, vI 3, vR s_GREATER, vI v31, .unset, .unset, .unset, .unset] [])) _
      refine XS.iload X32.here hx rfl (hb hby at_26) rfl ?_
      show Steps _ _ _ (T32.setTop (mkF m 28 #[vI p1, vI p2, vI 3, vR s_GREATER, vI v31, .unset, .unset, .unset, .unset] [iI v31])) _
      refine XS.ineg X32.here hx rfl (hb hby at_28) rfl ?_
      show Steps _ _ _ (T32.setTop (mkF m 29 #[vI p1, vI p2, vI 3, vR s_GREATER, vI v31, .unset, .unset, .unset, .unset] [iI (-v31)])) _
      refine XS.istore X32.here hx rfl (hb hby at_29) rfl (l' := #[vI p1, vI p2, vI 3, vR s_GREATER, vI v31, vI (-v31), .unset, .unset, .unset]) rfl ?_
      show Steps _ _ _ (T32.setTop (mkF m 31 #[vI p1, vI p2, vI 3, vR s_GREATER, vI v31, vI (-v31), .unset, .unset, .unset] [])) _
      refine XS.aloadN X32.here hx rfl (hb hby at_31) rfl rfl ?_
      show Steps _ _ _ (T32.setTop (mkF m 32 #[vI p1, vI p2, vI 3, vR s_GREATER, vI v31, vI (-v31), .unset, .unset, .unset] [iR s_GREATER])) _
      refine st34.trans ?_
      show Steps _ _ _ (T34.setTop (mkF m 35 #[vI p1, vI p2, vI 3, vR s_GREATER, vI v31, vI (-v31), .unset, .unset, .unset] [iI 1])) _
      refine XS.istore X34.here hx rfl (hb hby at_35) rfl (l' := #[vI p1, vI p2, vI 3, vR s_GREATER, vI v31, vI (-v31), vI 1, .unset, .unset]) rfl ?_
      show Steps _ _ _ (T34.setTop (mkF m 37 #[vI p1, vI p2, vI 3, vR s_GREATER, vI v31, vI (-v31), vI 1, .unset, .unset] [])) _
      refine XS.aloadN X34.here hx rfl (hb hby at_37) rfl rfl ?_
      show Steps _ _ _ (T34.setTop (mkF m 38 #[vI p1, vI p2, vI 3, vR s_GREATER, vI v31, vI (-v31), vI 1, .unset, .unset] [iR s_GREATER])) _
      refine XS.iload X34.here hx rfl (hb hby at_38) rfl ?_
      show Steps _ _ _ (T34.setTop (mkF m 40 #[vI p1, vI p2, vI 3, vR s_GREATER, vI v31, vI (-v31), vI 1, .unset, .unset] [iI v31, iR s_GREATER])) _
      refine st35.trans ?_
      show Steps _ _ _ (T35.setTop (mkF m 43 #[vI p1, vI p2, vI 3, vR s_GREATER, vI v31, vI (-v31), vI 1, .unset, .unset] [iI (own_adm_3 v31)])) _
      refine XS.istore X35.here hx rfl (hb hby at_43) rfl (l' := #[vI p1, vI p2, vI 3, vR s_GREATER, vI v31, vI (-v31), vI 1, vI (own_adm_3 v31), .unset]) rfl ?_
      show Steps _ _ _ (T35.setTop (mkF m 45 #[vI p1, vI p2, vI 3, vR s_GREATER, vI v31, vI (-v31), vI 1, vI (own_adm_3 v31), .unset] [])) _
      refine XS.aloadN X35.here hx rfl (hb hby at_45) rfl rfl ?_
      show Steps _ _ _ (T35.setTop (mkF m 46 #[vI p1, vI p2, vI 3, vR s_GREATER, vI v31, vI (-v31), vI 1, vI (own_adm_3 v31), .unset] [iR s_GREATER])) _
      refine XS.iload X35.here hx rfl (hb hby at_46) rfl ?_
      show Steps _ _ _ (T35.setTop (mkF m 48 #[vI p1, vI p2, vI 3, vR s_GREATER, vI v31, vI (-v31), vI 1, vI (own_adm_3 v31), .unset] [iI (-v31), iR s_GREATER])) _
      refine st36.trans ?_
      show Steps _ _ _ (T36.setTop (mkF m 51 #[vI p1, vI p2, vI 3, vR s_GREATER, vI v31, vI (-v31), vI 1, vI (own_adm_3 v31), .unset] [iI (own_adm_3 (-v31))])) _
      refine XS.ifNo X36.here hx rfl (hb hby at_51) rfl ((if0 _ _).trans (teq hh37).2) ?_
      show Steps _ _ _ (T36.setTop (mkF m 54 #[vI p1, vI p2, vI 3, vR s_GREATER, vI v31, vI (-v31), vI 1, vI (own_adm_3 v31), .unset] [])) _
      refine XS.iconst X36.here hx rfl (hb hby at_54) ?_
      show Steps _ _ _ (T36.setTop (mkF m 55 #[vI p1, vI p2, vI 3, vR s_GREATER, vI v31, vI (-v31), vI 1, vI (own_adm_3 v31), .unset] [iI 1])) _
      refine XS.goto X36.here hx rfl (pc0 := 55) (pc' := 59) rfl (hb hby at_55) (by decide) (by decide) ?_
      show Steps _ _ _ (T36.setTop (mkF m 59 #[vI p1, vI p2, vI 3, vR s_GREATER, vI v31, vI (-v31), vI 1, vI (own_adm_3 v31), .unset] [iI 1])) _
      refine XS.istore X36.here hx rfl (hb hby at_59) rfl (l' := #[vI p1, vI p2, vI 3, vR s_GREATER, vI v31, vI (-v31), vI 1, vI (own_adm_3 v31), vI 1]) rfl ?_
      show Steps _ _ _ (T36.setTop (mkF m 61 #[vI p1, vI p2, vI 3, vR s_GREATER, vI v31, vI (-v31), vI 1, vI (own_adm_3 v31), vI 1] [])) _
      refine XS.iload X36.here hx rfl (hb hby at_61) rfl ?_
      show Steps _ _ _ (T36.setTop (mkF m 63 #[vI p1, vI p2, vI 3, vR s_GREATER, vI v31, vI (-v31), vI 1, vI (own_adm_3 v31), vI 1] [iI 1])) _
      refine XS.iload X36.here hx rfl (hb hby at_63) rfl ?_
      show Steps _ _ _ (T36.setTop (mkF m 65 #[vI p1, vI p2, vI 3, vR s_GREATER, vI v31, vI (-v31), vI 1, vI (own_adm_3 v31), vI 1] [iI (own_adm_3 v31), iI 1])) _
      refine XS.ifNo X36.here hx rfl (hb hby at_65) rfl ((if0 _ _).trans (feq hh38).1) ?_
      show Steps _ _ _ (T36.setTop (mkF m 68 #[vI p1, vI p2, vI 3, vR s_GREATER, vI v31, vI (-v31), vI 1, vI (own_adm_3 v31), vI 1] [iI 1])) _
      refine XS.iload X36.here hx rfl (hb hby at_68) rfl ?_
      show Steps _ _ _ (T36.setTop (mkF m 70 #[vI p1, vI p2, vI 3, vR s_GREATER, vI v31, vI (-v31), vI 1, vI (own_adm_3 v31), vI 1] [iI 1, iI 1])) _
      refine XS.ifNo X36.here hx rfl (hb hby at_70) rfl ((if0 _ _).trans (feq (by decide : ¬ ((1 : Int32) = (0 : Int32)))).1) ?_
      show Steps _ _ _ (T36.setTop (mkF m 73 #[vI p1, vI p2, vI 3, vR s_GREATER, vI v31, vI (-v31), vI 1, vI (own_adm_3 v31), vI 1] [iI 1])) _
      refine XS.iconst X36.here hx rfl (hb hby at_73) ?_
      show Steps _ _ _ (T36.setTop (mkF m 74 #[vI p1, vI p2, vI 3, vR s_GREATER, vI v31, vI (-v31), vI 1, vI (own_adm_3 v31), vI 1] [iI 1, iI 1])) _
      refine XS.goto X36.here hx rfl (pc0 := 74) (pc' := 78) rfl (hb hby at_74) (by decide) (by decide) ?_
      show Steps _ _ _ (T36.setTop (mkF m 78 #[vI p1, vI p2, vI 3, vR s_GREATER, vI v31, vI (-v31), vI 1, vI (own_adm_3 v31), vI 1] [iI 1, iI 1])) _
      refine XS.icmpNo X36.here hx rfl (hb hby at_78) rfl (teq (by decide : (1 : Int32) = (1 : Int32))).2 ?_
      show Steps _ _ _ (T36.setTop (mkF m 81 #[vI p1, vI p2, vI 3, vR s_GREATER, vI v31, vI (-v31), vI 1, vI (own_adm_3 v31), vI 1] [])) _
      refine XS.iconst X36.here hx rfl (hb hby at_81) ?_
      show Steps _ _ _ (T36.setTop (mkF m 82 #[vI p1, vI p2, vI 3, vR s_GREATER, vI v31, vI (-v31), vI 1, vI (own_adm_3 v31), vI 1] [iI 1])) _
      refine XS.goto X36.here hx rfl (pc0 := 82) (pc' := 86) rfl (hb hby at_82) (by decide) (by decide) ?_
      show Steps _ _ _ (T36.setTop (mkF m 86 #[vI p1, vI p2, vI 3, vR s_GREATER, vI v31, vI (-v31), vI 1, vI (own_adm_3 v31), vI 1] [iI 1])) _
      exact retN X36 hx (t := .boolean) Bd.returns (by simp) (hb hby at_86) hr
    · show Q0 Z p1 p2 s_EQUAL s_GREATER s_GREATER_OR_EQUAL s_LESS s_LESS_OR_EQUAL h0 _ T36.heap _
      rw [e36]
      exact ⟨rfl, rfl, rfl⟩
  · obtain ⟨_, _, ⟨T39, L39, k39, n39⟩, -, X39, ⟨Lc39, hQ39, l39, y39, z39⟩, st39⟩ := Jvm.LawKit.callS X0 hx (y := (⟨"com/example/columngen/columngen/workload/OperatorIsLowerBoundPinLaw", "pick", "(I)Lcom/example/columngen/columngen/workload/Predicate$Operator;"⟩ : MethodName)) hown (mvT hZ (hw _ (List.mem_of_getElem? (i := 1) rfl))) (mvT hZ (hw _ (List.mem_of_getElem? (i := 2) rfl))) (mvT hZ (hw _ (List.mem_of_getElem? (i := 3) rfl))) (mvT hZ (hw _ (List.mem_of_getElem? (i := 4) rfl))) (by decide) (backOf (W := 0) (rm1_4 l Z a0 hw []  s_EQUAL s_GREATER s_GREATER_OR_EQUAL s_LESS s_LESS_OR_EQUAL h0 S_EQUAL E_EQUAL S_GREATER E_GREATER F_ordinal_EQUAL F_ordinal_GREATER S_GREATER_OR_EQUAL E_GREATER_OR_EQUAL F_ordinal_GREATER_OR_EQUAL S_LESS E_LESS F_ordinal_LESS S_LESS_OR_EQUAL E_LESS_OR_EQUAL F_ordinal_LESS_OR_EQUAL) hZ (hw _ (List.mem_of_getElem? (i := 4) rfl)) (hw _ (List.mem_of_getElem? (i := 3) rfl)) (by decide) (by decide)) (g := (mkF m 8 #[vI p1, vI p2, vI 4, .unset, .unset, .unset, .unset, .unset, .unset] [iI 4])) rfl (by rw [hml]; rfl) (argsL := [(.int (4 : Int32))]) (rest := []) (lenOf pd_1 rfl) rfl (by show 2 * 0 + _ ≤ _; exact Nat.le_of_eq rfl) (hb hby at_8) (fun _ _ => ⟨rfl, e0, (by decide : 0 + 0 ≤ _), (by decide : 0 + 0 ≤ _)⟩)
    dsimp only [Pt.U, Pt.locs, Pt.cells, Pt.slots] at X39 l39 y39 z39 st39 hQ39
    subst l39 y39 z39
    obtain ⟨rfl, rfl, e39⟩ := hQ39
    try rw [List.append_nil] at X39
    obtain ⟨v40, hv40⟩ : ∃ z : Int32, z = (if (p2 &&& (2147483647 : Int32)) = (0 : Int32) then (1 : Int32) else (p2 &&& (2147483647 : Int32))) := ⟨_, rfl⟩
    obtain ⟨T41, X41, e41, st41⟩ : own_Mid X39 h0 (mkF m 20 #[vI p1, vI p2, vI 4, vR s_GREATER_OR_EQUAL, vI (p2 &&& (2147483647 : Int32)), .unset, .unset, .unset, .unset] [iI (p2 &&& (2147483647 : Int32))]) (mkF m 26 #[vI p1, vI p2, vI 4, vR s_GREATER_OR_EQUAL, vI v40, .unset, .unset, .unset, .unset] []) := by
      by_cases hc42 : (p2 &&& (2147483647 : Int32)) = (0 : Int32)
      · refine ⟨T39, X39, e39, fun t kt => ?_⟩
        subst hv40
        simp only [if_pos hc42] at kt
        show Steps _ _ _ (T39.setTop (mkF m 20 #[vI p1, vI p2, vI 4, vR s_GREATER_OR_EQUAL, vI (p2 &&& (2147483647 : Int32)), .unset, .unset, .unset, .unset] [iI (p2 &&& (2147483647 : Int32))])) _
        refine XS.ifNo X39.here hx rfl (hb hby at_20) rfl ((if0 _ _).trans (teq hc42).2) ?_
        show Steps _ _ _ (T39.setTop (mkF m 23 #[vI p1, vI p2, vI 4, vR s_GREATER_OR_EQUAL, vI (p2 &&& (2147483647 : Int32)), .unset, .unset, .unset, .unset] [])) _
        refine XS.iconst X39.here hx rfl (hb hby at_23) ?_
        show Steps _ _ _ (T39.setTop (mkF m 24 #[vI p1, vI p2, vI 4, vR s_GREATER_OR_EQUAL, vI (p2 &&& (2147483647 : Int32)), .unset, .unset, .unset, .unset] [iI 1])) _
        refine XS.istore X39.here hx rfl (hb hby at_24) rfl (l' := #[vI p1, vI p2, vI 4, vR s_GREATER_OR_EQUAL, vI 1, .unset, .unset, .unset, .unset]) rfl ?_
        exact kt
      · refine ⟨T39, X39, e39, fun t kt => ?_⟩
        subst hv40
        simp only [if_neg hc42] at kt
        show Steps _ _ _ (T39.setTop (mkF m 20 #[vI p1, vI p2, vI 4, vR s_GREATER_OR_EQUAL, vI (p2 &&& (2147483647 : Int32)), .unset, .unset, .unset, .unset] [iI (p2 &&& (2147483647 : Int32))])) _
        refine XS.ifYes X39.here hx rfl (pc0 := 20) (pc' := 26) rfl (hb hby at_20) rfl ((if0 _ _).trans (feq hc42).2) (by decide) (by decide) ?_
        exact kt
    have hpos : 0 < v40.toInt := own_pos p2 v40 hv40
    obtain ⟨cq43, kq43, q43a, q43b, q43c⟩ := isOf hZ e41 E_GREATER_OR_EQUAL
    obtain ⟨_, _, ⟨T43, L43, k43, n43⟩, -, X43, ⟨Lc43, hQ43, l43, y43, z43⟩, st43⟩ := X41.virtualBack hx (y := (⟨"com/example/columngen/columngen/workload/Predicate$Operator", "isLowerBound", "()Z"⟩ : MethodName)) (z := (⟨"com/example/columngen/columngen/workload/Predicate$Operator", "isLowerBound", "()Z"⟩ : MethodName)) hown (mvT hZ (hw _ (List.mem_of_getElem? (i := 8) rfl))) (mvT hZ (hw _ (List.mem_of_getElem? (i := 9) rfl))) (notFace_of_selects (args := #[]) (mvT hZ (hw _ (List.mem_of_getElem? (i := 11) rfl)))) (mvT hZ (hw _ (List.mem_of_getElem? (i := 11) rfl))) (mvT hZ (hw _ (List.mem_of_getElem? (i := 10) rfl))) (by decide) (backOf (W := 0) (rm2_4 l Z a0 hw []  s_EQUAL s_GREATER s_GREATER_OR_EQUAL s_LESS s_LESS_OR_EQUAL h0 S_EQUAL E_EQUAL S_GREATER E_GREATER F_ordinal_EQUAL F_ordinal_GREATER S_GREATER_OR_EQUAL E_GREATER_OR_EQUAL F_ordinal_GREATER_OR_EQUAL S_LESS E_LESS F_ordinal_LESS S_LESS_OR_EQUAL E_LESS_OR_EQUAL F_ordinal_LESS_OR_EQUAL) hZ (hw _ (List.mem_of_getElem? (i := 12) rfl)) (hw _ (List.mem_of_getElem? (i := 6) rfl)) (by decide) (by decide)) q43a q43c (g := (mkF m 32 #[vI p1, vI p2, vI 4, vR s_GREATER_OR_EQUAL, vI v40, vI (-v40), .unset, .unset, .unset] [iR s_GREATER_OR_EQUAL])) rfl (by rw [hml]; rfl) (Steps.refl _) (argsL := []) (rest := []) (lenOf pd_2 rfl) rfl (by show 2 * 0 + _ ≤ _; exact Nat.le_of_eq rfl) (hb hby at_32) (fun _ _ => ⟨rfl, e41, (by decide : 0 + 0 ≤ _), (by decide : 0 + 0 ≤ _)⟩)
    dsimp only [Pt.U, Pt.locs, Pt.cells, Pt.slots] at X43 l43 y43 z43 st43 hQ43
    subst l43 y43 z43
    obtain ⟨rfl, rfl, e43⟩ := hQ43
    try rw [List.append_nil] at X43
    obtain ⟨cq44, kq44, q44a, q44b, q44c⟩ := isOf hZ e43 E_GREATER_OR_EQUAL
    obtain ⟨_, _, ⟨T44, L44, k44, n44⟩, -, X44, ⟨Lc44, hQ44, l44, y44, z44⟩, st44⟩ := X43.virtualBack hx (y := (⟨"com/example/columngen/columngen/workload/Predicate$Operator", "admits", "(I)Z"⟩ : MethodName)) (z := (⟨"com/example/columngen/columngen/workload/Predicate$Operator", "admits", "(I)Z"⟩ : MethodName)) hown (mvT hZ (hw _ (List.mem_of_getElem? (i := 17) rfl))) (mvT hZ (hw _ (List.mem_of_getElem? (i := 18) rfl))) (notFace_of_selects (args := #[]) (mvT hZ (hw _ (List.mem_of_getElem? (i := 20) rfl)))) (mvT hZ (hw _ (List.mem_of_getElem? (i := 20) rfl))) (mvT hZ (hw _ (List.mem_of_getElem? (i := 19) rfl))) (by decide) (backOf (W := 0) (rm3_4 l Z a0 hw [] v40 s_EQUAL s_GREATER s_GREATER_OR_EQUAL s_LESS s_LESS_OR_EQUAL h0 S_EQUAL E_EQUAL S_GREATER E_GREATER F_ordinal_EQUAL F_ordinal_GREATER S_GREATER_OR_EQUAL E_GREATER_OR_EQUAL F_ordinal_GREATER_OR_EQUAL S_LESS E_LESS F_ordinal_LESS S_LESS_OR_EQUAL E_LESS_OR_EQUAL F_ordinal_LESS_OR_EQUAL) hZ (hw _ (List.mem_of_getElem? (i := 21) rfl)) (hw _ (List.mem_of_getElem? (i := 6) rfl)) (by decide) (by decide)) q44a q44c (g := (mkF m 40 #[vI p1, vI p2, vI 4, vR s_GREATER_OR_EQUAL, vI v40, vI (-v40), vI 1, .unset, .unset] [iI v40, iR s_GREATER_OR_EQUAL])) rfl (by rw [hml]; rfl) (Steps.refl _) (argsL := [(.int v40)]) (rest := []) (lenOf pd_3 rfl) rfl (by show 2 * 0 + _ ≤ _; exact Nat.le_of_eq rfl) (hb hby at_40) (fun _ _ => ⟨rfl, e43, (by decide : 0 + 0 ≤ _), (by decide : 0 + 0 ≤ _)⟩)
    dsimp only [Pt.U, Pt.locs, Pt.cells, Pt.slots] at X44 l44 y44 z44 st44 hQ44
    subst l44 y44 z44
    obtain ⟨rfl, rfl, e44⟩ := hQ44
    try rw [List.append_nil] at X44
    obtain ⟨cq45, kq45, q45a, q45b, q45c⟩ := isOf hZ e44 E_GREATER_OR_EQUAL
    obtain ⟨_, _, ⟨T45, L45, k45, n45⟩, -, X45, ⟨Lc45, hQ45, l45, y45, z45⟩, st45⟩ := X44.virtualBack hx (y := (⟨"com/example/columngen/columngen/workload/Predicate$Operator", "admits", "(I)Z"⟩ : MethodName)) (z := (⟨"com/example/columngen/columngen/workload/Predicate$Operator", "admits", "(I)Z"⟩ : MethodName)) hown (mvT hZ (hw _ (List.mem_of_getElem? (i := 17) rfl))) (mvT hZ (hw _ (List.mem_of_getElem? (i := 18) rfl))) (notFace_of_selects (args := #[]) (mvT hZ (hw _ (List.mem_of_getElem? (i := 20) rfl)))) (mvT hZ (hw _ (List.mem_of_getElem? (i := 20) rfl))) (mvT hZ (hw _ (List.mem_of_getElem? (i := 19) rfl))) (by decide) (backOf (W := 0) (rm3_4 l Z a0 hw [] (-v40) s_EQUAL s_GREATER s_GREATER_OR_EQUAL s_LESS s_LESS_OR_EQUAL h0 S_EQUAL E_EQUAL S_GREATER E_GREATER F_ordinal_EQUAL F_ordinal_GREATER S_GREATER_OR_EQUAL E_GREATER_OR_EQUAL F_ordinal_GREATER_OR_EQUAL S_LESS E_LESS F_ordinal_LESS S_LESS_OR_EQUAL E_LESS_OR_EQUAL F_ordinal_LESS_OR_EQUAL) hZ (hw _ (List.mem_of_getElem? (i := 21) rfl)) (hw _ (List.mem_of_getElem? (i := 6) rfl)) (by decide) (by decide)) q45a q45c (g := (mkF m 48 #[vI p1, vI p2, vI 4, vR s_GREATER_OR_EQUAL, vI v40, vI (-v40), vI 1, vI (own_adm_4 v40), .unset] [iI (-v40), iR s_GREATER_OR_EQUAL])) rfl (by rw [hml]; rfl) (Steps.refl _) (argsL := [(.int (-v40))]) (rest := []) (lenOf pd_3 rfl) rfl (by show 2 * 0 + _ ≤ _; exact Nat.le_of_eq rfl) (hb hby at_48) (fun _ _ => ⟨rfl, e44, (by decide : 0 + 0 ≤ _), (by decide : 0 + 0 ≤ _)⟩)
    dsimp only [Pt.U, Pt.locs, Pt.cells, Pt.slots] at X45 l45 y45 z45 st45 hQ45
    subst l45 y45 z45
    obtain ⟨rfl, rfl, e45⟩ := hQ45
    try rw [List.append_nil] at X45
    have hh46 : (own_adm_4 (-v40)) = (0 : Int32) := own_neg_4 v40 hpos
    have hh47 : ¬ ((own_adm_4 v40) = (0 : Int32)) := (by rw [own_pos_4 v40 hpos]; decide)
    obtain ⟨fs, hr, hrun, hended, hW, hsame⟩ := X45.leave (v := some (.int (1 : Int32))) (fun h => by rw [Bd.returns] at h; cases h)
    refine ⟨_, _, pre2 _ ?_, hrun, hended, _, _, rfl, ?_, ⟨_, rfl⟩, hW, hsame.mono (by decide) (by decide)⟩
    · show Steps _ _ _ (s₁.setTop (mkF m 7 #[vI p1, vI p2, vI 4, .unset, .unset, .unset, .unset, .unset, .unset] [])) _
      refine XS.iloadN X0.here hx rfl (hb hby at_7) rfl ?_
      show Steps _ _ _ (s₁.setTop (mkF m 8 #[vI p1, vI p2, vI 4, .unset, .unset, .unset, .unset, .unset, .unset] [iI 4])) _
      refine st39 _ ?_
      show Steps _ _ _ (T39.setTop (mkF m 11 #[vI p1, vI p2, vI 4, .unset, .unset, .unset, .unset, .unset, .unset] [iR s_GREATER_OR_EQUAL])) _
      refine XS.astoreN X39.here hx rfl (hb hby at_11) rfl rfl (l' := #[vI p1, vI p2, vI 4, vR s_GREATER_OR_EQUAL, .unset, .unset, .unset, .unset, .unset]) rfl ?_
      show Steps _ _ _ (T39.setTop (mkF m 12 #[vI p1, vI p2, vI 4, vR s_GREATER_OR_EQUAL, .unset, .unset, .unset, .unset, .unset] [])) _
      refine XS.iloadN X39.here hx rfl (hb hby at_12) rfl ?_
      show Steps _ _ _ (T39.setTop (mkF m 13 #[vI p1, vI p2, vI 4, vR s_GREATER_OR_EQUAL, .unset, .unset, .unset, .unset, .unset] [iI p2])) _
      refine X39.ldcInt hx hown (mvT hZ (hw _ (List.mem_of_getElem? (i := 0) rfl))) (g := (mkF m 13 #[vI p1, vI p2, vI 4, vR s_GREATER_OR_EQUAL, .unset, .unset, .unset, .unset, .unset] [iI p2])) rfl (hb hby at_13) _ ?_
      show Steps _ _ _ (T39.setTop (mkF m 15 #[vI p1, vI p2, vI 4, vR s_GREATER_OR_EQUAL, .unset, .unset, .unset, .unset, .unset] [iI 2147483647, iI p2])) _
      refine XS.iand X39.here hx rfl (hb hby at_15) rfl ?_
      show Steps _ _ _ (T39.setTop (mkF m 16 #[vI p1, vI p2, vI 4, vR s_GREATER_OR_EQUAL, .unset, .unset, .unset, .unset, .unset] [iI (p2 &&& (2147483647 : Int32))])) _
      refine XS.istore X39.here hx rfl (hb hby at_16) rfl (l' := #[vI p1, vI p2, vI 4, vR s_GREATER_OR_EQUAL, vI (p2 &&& (2147483647 : Int32)), .unset, .unset, .unset, .unset]) rfl ?_
      show Steps _ _ _ (T39.setTop (mkF m 18 #[vI p1, vI p2, vI 4, vR s_GREATER_OR_EQUAL, vI (p2 &&& (2147483647 : Int32)), .unset, .unset, .unset, .unset] [])) _
      refine XS.iload X39.here hx rfl (hb hby at_18) rfl ?_
      show Steps _ _ _ (T39.setTop (mkF m 20 #[vI p1, vI p2, vI 4, vR s_GREATER_OR_EQUAL, vI (p2 &&& (2147483647 : Int32)), .unset, .unset, .unset, .unset] [iI (p2 &&& (2147483647 : Int32))])) _
      refine st41 _ ?_
      show Steps _ _ _ (T41.setTop (mkF m 26 #[vI p1, vI p2, vI 4, vR s_GREATER_OR_EQUAL, vI v40, .unset, .unset, .unset, .unset] [])) _
      refine XS.iload X41.here hx rfl (hb hby at_26) rfl ?_
      show Steps _ _ _ (T41.setTop (mkF m 28 #[vI p1, vI p2, vI 4, vR s_GREATER_OR_EQUAL, vI v40, .unset, .unset, .unset, .unset] [iI v40])) _
      refine XS.ineg X41.here hx rfl (hb hby at_28) rfl ?_
      show Steps _ _ _ (T41.setTop (mkF m 29 #[vI p1, vI p2, vI 4, vR s_GREATER_OR_EQUAL, vI v40, .unset, .unset, .unset, .unset] [iI (-v40)])) _
      refine XS.istore X41.here hx rfl (hb hby at_29) rfl (l' := #[vI p1, vI p2, vI 4, vR s_GREATER_OR_EQUAL, vI v40, vI (-v40), .unset, .unset, .unset]) rfl ?_
      show Steps _ _ _ (T41.setTop (mkF m 31 #[vI p1, vI p2, vI 4, vR s_GREATER_OR_EQUAL, vI v40, vI (-v40), .unset, .unset, .unset] [])) _
      refine XS.aloadN X41.here hx rfl (hb hby at_31) rfl rfl ?_
      show Steps _ _ _ (T41.setTop (mkF m 32 #[vI p1, vI p2, vI 4, vR s_GREATER_OR_EQUAL, vI v40, vI (-v40), .unset, .unset, .unset] [iR s_GREATER_OR_EQUAL])) _
      refine st43.trans ?_
      show Steps _ _ _ (T43.setTop (mkF m 35 #[vI p1, vI p2, vI 4, vR s_GREATER_OR_EQUAL, vI v40, vI (-v40), .unset, .unset, .unset] [iI 1])) _
      refine XS.istore X43.here hx rfl (hb hby at_35) rfl (l' := #[vI p1, vI p2, vI 4, vR s_GREATER_OR_EQUAL, vI v40, vI (-v40), vI 1, .unset, .unset]) rfl ?_
      show Steps _ _ _ (T43.setTop (mkF m 37 #[vI p1, vI p2, vI 4, vR s_GREATER_OR_EQUAL, vI v40, vI (-v40), vI 1, .unset, .unset] [])) _
      refine XS.aloadN X43.here hx rfl (hb hby at_37) rfl rfl ?_
      show Steps _ _ _ (T43.setTop (mkF m 38 #[vI p1, vI p2, vI 4, vR s_GREATER_OR_EQUAL, vI v40, vI (-v40), vI 1, .unset, .unset] [iR s_GREATER_OR_EQUAL])) _
      refine XS.iload X43.here hx rfl (hb hby at_38) rfl ?_
      show Steps _ _ _ (T43.setTop (mkF m 40 #[vI p1, vI p2, vI 4, vR s_GREATER_OR_EQUAL, vI v40, vI (-v40), vI 1, .unset, .unset] [iI v40, iR s_GREATER_OR_EQUAL])) _
      refine st44.trans ?_
      show Steps _ _ _ (T44.setTop (mkF m 43 #[vI p1, vI p2, vI 4, vR s_GREATER_OR_EQUAL, vI v40, vI (-v40), vI 1, .unset, .unset] [iI (own_adm_4 v40)])) _
      refine XS.istore X44.here hx rfl (hb hby at_43) rfl (l' := #[vI p1, vI p2, vI 4, vR s_GREATER_OR_EQUAL, vI v40, vI (-v40), vI 1, vI (own_adm_4 v40), .unset]) rfl ?_
      show Steps _ _ _ (T44.setTop (mkF m 45 #[vI p1, vI p2, vI 4, vR s_GREATER_OR_EQUAL, vI v40, vI (-v40), vI 1, vI (own_adm_4 v40), .unset] [])) _
      refine XS.aloadN X44.here hx rfl (hb hby at_45) rfl rfl ?_
      show Steps _ _ _ (T44.setTop (mkF m 46 #[vI p1, vI p2, vI 4, vR s_GREATER_OR_EQUAL, vI v40, vI (-v40), vI 1, vI (own_adm_4 v40), .unset] [iR s_GREATER_OR_EQUAL])) _
      refine XS.iload X44.here hx rfl (hb hby at_46) rfl ?_
      show Steps _ _ _ (T44.setTop (mkF m 48 #[vI p1, vI p2, vI 4, vR s_GREATER_OR_EQUAL, vI v40, vI (-v40), vI 1, vI (own_adm_4 v40), .unset] [iI (-v40), iR s_GREATER_OR_EQUAL])) _
      refine st45.trans ?_
      show Steps _ _ _ (T45.setTop (mkF m 51 #[vI p1, vI p2, vI 4, vR s_GREATER_OR_EQUAL, vI v40, vI (-v40), vI 1, vI (own_adm_4 v40), .unset] [iI (own_adm_4 (-v40))])) _
      refine XS.ifNo X45.here hx rfl (hb hby at_51) rfl ((if0 _ _).trans (teq hh46).2) ?_
      show Steps _ _ _ (T45.setTop (mkF m 54 #[vI p1, vI p2, vI 4, vR s_GREATER_OR_EQUAL, vI v40, vI (-v40), vI 1, vI (own_adm_4 v40), .unset] [])) _
      refine XS.iconst X45.here hx rfl (hb hby at_54) ?_
      show Steps _ _ _ (T45.setTop (mkF m 55 #[vI p1, vI p2, vI 4, vR s_GREATER_OR_EQUAL, vI v40, vI (-v40), vI 1, vI (own_adm_4 v40), .unset] [iI 1])) _
      refine XS.goto X45.here hx rfl (pc0 := 55) (pc' := 59) rfl (hb hby at_55) (by decide) (by decide) ?_
      show Steps _ _ _ (T45.setTop (mkF m 59 #[vI p1, vI p2, vI 4, vR s_GREATER_OR_EQUAL, vI v40, vI (-v40), vI 1, vI (own_adm_4 v40), .unset] [iI 1])) _
      refine XS.istore X45.here hx rfl (hb hby at_59) rfl (l' := #[vI p1, vI p2, vI 4, vR s_GREATER_OR_EQUAL, vI v40, vI (-v40), vI 1, vI (own_adm_4 v40), vI 1]) rfl ?_
      show Steps _ _ _ (T45.setTop (mkF m 61 #[vI p1, vI p2, vI 4, vR s_GREATER_OR_EQUAL, vI v40, vI (-v40), vI 1, vI (own_adm_4 v40), vI 1] [])) _
      refine XS.iload X45.here hx rfl (hb hby at_61) rfl ?_
      show Steps _ _ _ (T45.setTop (mkF m 63 #[vI p1, vI p2, vI 4, vR s_GREATER_OR_EQUAL, vI v40, vI (-v40), vI 1, vI (own_adm_4 v40), vI 1] [iI 1])) _
      refine XS.iload X45.here hx rfl (hb hby at_63) rfl ?_
      show Steps _ _ _ (T45.setTop (mkF m 65 #[vI p1, vI p2, vI 4, vR s_GREATER_OR_EQUAL, vI v40, vI (-v40), vI 1, vI (own_adm_4 v40), vI 1] [iI (own_adm_4 v40), iI 1])) _
      refine XS.ifNo X45.here hx rfl (hb hby at_65) rfl ((if0 _ _).trans (feq hh47).1) ?_
      show Steps _ _ _ (T45.setTop (mkF m 68 #[vI p1, vI p2, vI 4, vR s_GREATER_OR_EQUAL, vI v40, vI (-v40), vI 1, vI (own_adm_4 v40), vI 1] [iI 1])) _
      refine XS.iload X45.here hx rfl (hb hby at_68) rfl ?_
      show Steps _ _ _ (T45.setTop (mkF m 70 #[vI p1, vI p2, vI 4, vR s_GREATER_OR_EQUAL, vI v40, vI (-v40), vI 1, vI (own_adm_4 v40), vI 1] [iI 1, iI 1])) _
      refine XS.ifNo X45.here hx rfl (hb hby at_70) rfl ((if0 _ _).trans (feq (by decide : ¬ ((1 : Int32) = (0 : Int32)))).1) ?_
      show Steps _ _ _ (T45.setTop (mkF m 73 #[vI p1, vI p2, vI 4, vR s_GREATER_OR_EQUAL, vI v40, vI (-v40), vI 1, vI (own_adm_4 v40), vI 1] [iI 1])) _
      refine XS.iconst X45.here hx rfl (hb hby at_73) ?_
      show Steps _ _ _ (T45.setTop (mkF m 74 #[vI p1, vI p2, vI 4, vR s_GREATER_OR_EQUAL, vI v40, vI (-v40), vI 1, vI (own_adm_4 v40), vI 1] [iI 1, iI 1])) _
      refine XS.goto X45.here hx rfl (pc0 := 74) (pc' := 78) rfl (hb hby at_74) (by decide) (by decide) ?_
      show Steps _ _ _ (T45.setTop (mkF m 78 #[vI p1, vI p2, vI 4, vR s_GREATER_OR_EQUAL, vI v40, vI (-v40), vI 1, vI (own_adm_4 v40), vI 1] [iI 1, iI 1])) _
      refine XS.icmpNo X45.here hx rfl (hb hby at_78) rfl (teq (by decide : (1 : Int32) = (1 : Int32))).2 ?_
      show Steps _ _ _ (T45.setTop (mkF m 81 #[vI p1, vI p2, vI 4, vR s_GREATER_OR_EQUAL, vI v40, vI (-v40), vI 1, vI (own_adm_4 v40), vI 1] [])) _
      refine XS.iconst X45.here hx rfl (hb hby at_81) ?_
      show Steps _ _ _ (T45.setTop (mkF m 82 #[vI p1, vI p2, vI 4, vR s_GREATER_OR_EQUAL, vI v40, vI (-v40), vI 1, vI (own_adm_4 v40), vI 1] [iI 1])) _
      refine XS.goto X45.here hx rfl (pc0 := 82) (pc' := 86) rfl (hb hby at_82) (by decide) (by decide) ?_
      show Steps _ _ _ (T45.setTop (mkF m 86 #[vI p1, vI p2, vI 4, vR s_GREATER_OR_EQUAL, vI v40, vI (-v40), vI 1, vI (own_adm_4 v40), vI 1] [iI 1])) _
      exact retN X45 hx (t := .boolean) Bd.returns (by simp) (hb hby at_86) hr
    · show Q0 Z p1 p2 s_EQUAL s_GREATER s_GREATER_OR_EQUAL s_LESS s_LESS_OR_EQUAL h0 _ T45.heap _
      rw [e45]
      exact ⟨rfl, rfl, rfl⟩
set_option maxRecDepth 65536 in
set_option maxHeartbeats 40000000 in
theorem comes_1 {Post : Tables → Env → Array Value → State → Outcome → State → Prop} (hpost : ∀ tb e args s v u, (limb_1_1.after args s (.returned v) u = true ∧ limb_1_2.after args s (.returned v) u = true ∧ True) → FrameEnd s (.returned v) u (Jvm.fieldLocs frame_1_writes args s ++ Jvm.arrayLocs frame_1_arrays args s ++ Jvm.staticLocs frame_1_statics s) 0 0 → Post tb e args s (.returned v) u) :
    ArmFor flags0 classFile x code maxLocals ret World_1 tables_1 room_1 Calls_1 rest_1 Pre_1 Post := by
  intro l hfl _ _ p e ha hc hk s m args below hf hA hF happ hP
  obtain ⟨hcalls, hrest, hpre⟩ := hP
  obtain ⟨-, -, -, hnamed, -, -, -, hat⟩ := (Spec.applies_iff hf).mp happ
  obtain ⟨hg, hn⟩ := and_e (Cond.before_iff.mp (show (Jvm.Cond.and given_1 narrow_1).before args s = true from hpre))
  obtain ⟨gc, gr0⟩ := and_e hg
  obtain ⟨ga0, gr1⟩ := and_e gr0
  obtain ⟨w0, w1, rfl⟩ : ∃ w0 w1 : Value, args = #[w0, w1] := by
    have hs : args.size = 2 := by simpa [Cond.value, given_1] using gc
    obtain ⟨L⟩ := args
    match L, hs with
    | [w0, w1], _ => exact ⟨w0, w1, rfl⟩
  have hw := fun d (hd : d ∈ tables_1) => atoms_spec (ws := Jvm.Cond.code x code maxLocals ret :: tables_1) hat d (List.mem_cons_of_mem _ hd)
  have hfit : Fit s := fun {y c} hc i hi => by
    obtain ⟨ha, rfl⟩ := Array.getElem?_eq_some_iff.mp hc
    have q := List.all_eq_true.mp ((Array.all_eq_true_iff_forall_mem.mp hF) _ (Array.getElem_mem ha)) i (List.mem_range.mpr hi)
    simpa [Array.getElem?_eq_getElem hi] using q
  obtain ⟨i0, ei0⟩ := is_v ga0
  obtain rfl : w0 = (.int i0) := Option.some.inj ei0
  obtain ⟨i1, ei1⟩ := is_v gr1
  obtain rfl : w1 = (.int i1) := Option.some.inj ei1
  obtain ⟨u0, t0⟩ := and_e hn
  obtain ⟨u1, t1⟩ := and_e t0
  obtain ⟨u2, t2⟩ := and_e t1
  obtain ⟨u3, t3⟩ := and_e t2
  obtain ⟨u4, t4⟩ := and_e t3
  obtain ⟨u5, t5⟩ := and_e t4
  obtain ⟨u6, t6⟩ := and_e t5
  obtain ⟨u7, t7⟩ := and_e t6
  obtain ⟨u8, t8⟩ := and_e t7
  have u9 := t8
  obtain ⟨s_EQUAL, ev_EQUAL⟩ := exa_v u0
  have S_EQUAL : Sta s s.heap "com/example/columngen/columngen/workload/Predicate$Operator" "EQUAL" "Lcom/example/columngen/columngen/workload/Predicate$Operator;" (.ref s_EQUAL) := Sta.start ev_EQUAL (Or.inr ⟨(hw _ (List.mem_of_getElem? (i := 6) rfl)), (hw _ (List.mem_of_getElem? (i := 7) rfl))⟩)
  have E_EQUAL : Exa s s.heap s_EQUAL "com/example/columngen/columngen/workload/Predicate$Operator" := Exa.start ev_EQUAL u0
  obtain ⟨s_GREATER, ev_GREATER⟩ := exa_v u1
  have S_GREATER : Sta s s.heap "com/example/columngen/columngen/workload/Predicate$Operator" "GREATER" "Lcom/example/columngen/columngen/workload/Predicate$Operator;" (.ref s_GREATER) := Sta.start ev_GREATER (Or.inr ⟨(hw _ (List.mem_of_getElem? (i := 6) rfl)), (hw _ (List.mem_of_getElem? (i := 14) rfl))⟩)
  have E_GREATER : Exa s s.heap s_GREATER "com/example/columngen/columngen/workload/Predicate$Operator" := Exa.start ev_GREATER u1
  obtain ⟨s_GREATER_OR_EQUAL, ev_GREATER_OR_EQUAL⟩ := exa_v u4
  have S_GREATER_OR_EQUAL : Sta s s.heap "com/example/columngen/columngen/workload/Predicate$Operator" "GREATER_OR_EQUAL" "Lcom/example/columngen/columngen/workload/Predicate$Operator;" (.ref s_GREATER_OR_EQUAL) := Sta.start ev_GREATER_OR_EQUAL (Or.inr ⟨(hw _ (List.mem_of_getElem? (i := 6) rfl)), (hw _ (List.mem_of_getElem? (i := 16) rfl))⟩)
  have E_GREATER_OR_EQUAL : Exa s s.heap s_GREATER_OR_EQUAL "com/example/columngen/columngen/workload/Predicate$Operator" := Exa.start ev_GREATER_OR_EQUAL u4
  obtain ⟨s_LESS, ev_LESS⟩ := exa_v u6
  have S_LESS : Sta s s.heap "com/example/columngen/columngen/workload/Predicate$Operator" "LESS" "Lcom/example/columngen/columngen/workload/Predicate$Operator;" (.ref s_LESS) := Sta.start ev_LESS (Or.inr ⟨(hw _ (List.mem_of_getElem? (i := 6) rfl)), (hw _ (List.mem_of_getElem? (i := 34) rfl))⟩)
  have E_LESS : Exa s s.heap s_LESS "com/example/columngen/columngen/workload/Predicate$Operator" := Exa.start ev_LESS u6
  obtain ⟨s_LESS_OR_EQUAL, ev_LESS_OR_EQUAL⟩ := exa_v u8
  have S_LESS_OR_EQUAL : Sta s s.heap "com/example/columngen/columngen/workload/Predicate$Operator" "LESS_OR_EQUAL" "Lcom/example/columngen/columngen/workload/Predicate$Operator;" (.ref s_LESS_OR_EQUAL) := Sta.start ev_LESS_OR_EQUAL (Or.inr ⟨(hw _ (List.mem_of_getElem? (i := 6) rfl)), (hw _ (List.mem_of_getElem? (i := 36) rfl))⟩)
  have E_LESS_OR_EQUAL : Exa s s.heap s_LESS_OR_EQUAL "com/example/columngen/columngen/workload/Predicate$Operator" := Exa.start ev_LESS_OR_EQUAL u8
  have F_ordinal_EQUAL : Fld s s.heap s_EQUAL "java/lang/Enum" "ordinal" "I" (.int (0 : Int32)) := own_fldEq ev_EQUAL u2
  have F_ordinal_GREATER : Fld s s.heap s_GREATER "java/lang/Enum" "ordinal" "I" (.int (3 : Int32)) := own_fldEq ev_GREATER u3
  have F_ordinal_GREATER_OR_EQUAL : Fld s s.heap s_GREATER_OR_EQUAL "java/lang/Enum" "ordinal" "I" (.int (4 : Int32)) := own_fldEq ev_GREATER_OR_EQUAL u5
  have F_ordinal_LESS : Fld s s.heap s_LESS "java/lang/Enum" "ordinal" "I" (.int (1 : Int32)) := own_fldEq ev_LESS u7
  have F_ordinal_LESS_OR_EQUAL : Fld s s.heap s_LESS_OR_EQUAL "java/lang/Enum" "ordinal" "I" (.int (2 : Int32)) := own_fldEq ev_LESS_OR_EQUAL u9
  obtain ⟨n, o, h1, h2, h3, _, L, rfl, Qv, hq⟩ := rm0 l s _ hw tables_1 i0 i1 s_EQUAL s_GREATER s_GREATER_OR_EQUAL s_LESS s_LESS_OR_EQUAL s.heap S_EQUAL E_EQUAL S_GREATER E_GREATER F_ordinal_EQUAL F_ordinal_GREATER S_GREATER_OR_EQUAL E_GREATER_OR_EQUAL F_ordinal_GREATER_OR_EQUAL S_LESS E_LESS F_ordinal_LESS S_LESS_OR_EQUAL E_LESS_OR_EQUAL F_ordinal_LESS_OR_EQUAL p e ha hc hk s m _ below hf ((Spec.applies_iff_loose hf).mp happ).1 ⟨rfl, State.Warmed39.refl s, rfl⟩ trivial
  obtain ⟨rfl, rfl, -⟩ := Qv
  have N := Fr.nil s.heap.size
  refine ⟨n, _, h1, h2, h3, hpost _ _ _ _ _ _ ⟨Cond.after_iff.mpr rfl, Cond.after_iff.mpr (eq_i res_at (Term.int_eval (1)) rfl), trivial⟩ ⟨hq.1, hq.2.1, (hq.2.2.sift fun y hy => Or.inr (N y hy)).mono (by decide) (by decide)⟩⟩
theorem main_1_1 : Claimed_1_1 := comes_1 fun _ _ _ _ _ _ h hF => ⟨h.1, hF⟩
theorem main_1_2 : Claimed_1_2 := comes_1 fun _ _ _ _ _ _ h hF => ⟨h.2.1, hF⟩
end Jvm.Pilot.@@N@@
namespace Jvm.Pilot.@@N@@
open Jvm Jvm.ClassFile Sem Op Lib Jvm.Free Jvm.Stand Jvm.Pilot.@@N@@.Jvm.D
/-! MADE BY PROGRAM (witnessworld.py) out of the Statement's table words and the real class files: 12 classes; the members and pool entries that the words name. The judged class is class 1, her method 2. -/
namespace start1
open Jvm.ClassFile
def u (s : String) : CpInfo := .utf8 (stringToUtf16 s)
/-- a pool by its gaps: so many unusable entries, then the entry; so many at the end -/
def gap : Nat → List CpInfo → List CpInfo
  | 0, r => r
  | n + 1, r => .unusable :: gap n r
def poolList (es : List (Nat × CpInfo)) (last : Nat) : List CpInfo := es.foldr (fun e r => gap e.1 (e.2 :: r)) (gap last [])
def pool (es : List (Nat × CpInfo)) (last : Nat) : Array CpInfo := ⟨poolList es last⟩
def fileOf (pool : Array CpInfo) (this : Nat) (attrs : Array Attribute := #[]) (ms : Array MethodInfo := #[]) (fl : Nat := 33) (sup : Nat := 0) (ifs : Array Nat := #[]) (fds : Array FieldInfo := #[]) : ClassFile where
  minorVersion := 0
  majorVersion := 65
  constantPool := pool
  accessFlags := fl
  thisClass := this
  superClass := sup
  interfaces := ifs
  fields := fds
  methods := ms
  attributes := attrs
def plain (name : String) (sup : Option ClassId) : Class where
  name := name
  kind := .ordinary
  loader := none
  accessFlags := 33
  super := sup
  interfaces := #[]
  cf := none
  fields := #[]
  methods := #[]
  instanceTypes := #[]
  staticTypes := #[]
  resolved := #[]
  callSites := []
  init := .initialized
  statics := none
  mirror := none

def pool0 : Array CpInfo := pool [(5, u "<init>"), (0, u "()V"), (1, .class_ 10), (1, u "java/lang/Object")] 113

def k0m0 : Method := { name := "<init>", desc := "()V", sig := { parameters := [], returnType := none }, accessFlags := 1, code := none }
/-- java/lang/Object -/
def k0 : Class := { plain "java/lang/Object" none with
  accessFlags := 33
  interfaces := #[]
  cf := some (fileOf pool0 8 #[] #[{ accessFlags := 1, nameIndex := 5, descriptorIndex := 6, attributes := #[] }] 33 0 #[] #[])
  fields := #[]
  methods := #[k0m0]
  instanceTypes := #[]
  staticTypes := #[]
  resolved := Array.replicate 124 none
  statics := none }

def pool1 : Array CpInfo := pool [(2, .class_ 4), (1, u "java/lang/Object"), (0, u "<init>"), (0, u "()V"), (0, .fieldref 8 9), (0, .class_ 10), (0, .nameAndType 11 12), (0, u "com/example/columngen/columngen/workload/Predicate$Operator"), (0, u "EQUAL"), (0, u "Lcom/example/columngen/columngen/workload/Predicate$Operator;"), (0, .fieldref 8 14), (0, .nameAndType 15 12), (0, u "LESS"), (0, .fieldref 8 17), (0, .nameAndType 18 12), (0, u "LESS_OR_EQUAL"), (0, .fieldref 8 20), (0, .nameAndType 21 12), (0, u "GREATER"), (0, .fieldref 8 23), (0, .nameAndType 24 12), (0, u "GREATER_OR_EQUAL"), (0, .integer 2147483647), (0, .methodref 27 28), (0, .class_ 29), (0, .nameAndType 30 31), (0, u "com/example/columngen/columngen/workload/OperatorIsLowerBoundPinLaw"), (0, u "pick"), (0, u "(I)Lcom/example/columngen/columngen/workload/Predicate$Operator;"), (0, .methodref 8 33), (0, .nameAndType 34 35), (0, u "isLowerBound"), (0, u "()Z"), (0, .methodref 8 37), (0, .nameAndType 38 39), (0, u "admits"), (0, u "(I)Z"), (3, u "law"), (0, u "(II)Z")] 6

def k1m0 : Method := { name := "<init>", desc := "()V", sig := { parameters := [], returnType := none }, accessFlags := 1, code := none }
def k1c1 : Code := { maxStack := 2, maxLocals := 1, code := method_2_code, exceptionTable := #[], attributes := #[] }
def k1m1 : Method := { name := "pick", desc := "(I)Lcom/example/columngen/columngen/workload/Predicate$Operator;", sig := { parameters := [.int], returnType := some (.object "com/example/columngen/columngen/workload/Predicate$Operator") }, accessFlags := 10, code := some k1c1 }
def k1c2 : Code := { maxStack := 2, maxLocals := 9, code := code, exceptionTable := #[], attributes := #[] }
def k1m2 : Method := { name := "law", desc := "(II)Z", sig := { parameters := [.int, .int], returnType := some .boolean }, accessFlags := 9, code := some k1c2 }
/-- com/example/columngen/columngen/workload/OperatorIsLowerBoundPinLaw -/
def k1 : Class := { plain "com/example/columngen/columngen/workload/OperatorIsLowerBoundPinLaw" (some 0) with
  accessFlags := 49
  interfaces := #[]
  cf := some (fileOf pool1 27 #[] #[{ accessFlags := 1, nameIndex := 5, descriptorIndex := 6, attributes := #[] }, { accessFlags := 10, nameIndex := 30, descriptorIndex := 31, attributes := #[] }, { accessFlags := 9, nameIndex := 43, descriptorIndex := 44, attributes := #[] }] 49 2 #[] #[])
  fields := #[]
  methods := #[k1m0, k1m1, k1m2]
  instanceTypes := #[]
  staticTypes := #[]
  resolved := Array.replicate 51 none
  statics := none }

def pool2 : Array CpInfo := pool [(1, .class_ 2), (0, u "java/lang/constant/Constable"), (0, .class_ 4), (0, u "java/lang/Object")] 6

/-- java/lang/constant/Constable -/
def k2 : Class := { plain "java/lang/constant/Constable" (some 0) with
  accessFlags := 1537
  interfaces := #[]
  cf := some (fileOf pool2 1 #[] #[] 1537 3 #[] #[])
  fields := #[]
  methods := #[]
  instanceTypes := #[]
  staticTypes := #[]
  resolved := Array.replicate 11 none
  statics := none }

def pool3 : Array CpInfo := pool [(1, .class_ 2), (0, u "java/lang/Comparable"), (0, .class_ 4), (0, u "java/lang/Object")] 7

/-- java/lang/Comparable -/
def k3 : Class := { plain "java/lang/Comparable" (some 0) with
  accessFlags := 1537
  interfaces := #[]
  cf := some (fileOf pool3 1 #[] #[] 1537 3 #[] #[])
  fields := #[]
  methods := #[]
  instanceTypes := #[]
  staticTypes := #[]
  resolved := Array.replicate 12 none
  statics := none }

def pool4 : Array CpInfo := pool [(1, .class_ 2), (0, u "java/io/Serializable"), (0, .class_ 4), (0, u "java/lang/Object")] 2

/-- java/io/Serializable -/
def k4 : Class := { plain "java/io/Serializable" (some 0) with
  accessFlags := 1537
  interfaces := #[]
  cf := some (fileOf pool4 1 #[] #[] 1537 3 #[] #[])
  fields := #[]
  methods := #[]
  instanceTypes := #[]
  staticTypes := #[]
  resolved := Array.replicate 7 none
  statics := none }

def pool5 : Array CpInfo := pool [(2, .class_ 4), (1, u "java/lang/Enum"), (0, u "name"), (0, u "Ljava/lang/String;"), (0, .fieldref 2 8), (0, .nameAndType 9 10), (0, u "ordinal"), (0, u "I"), (1, .class_ 14), (1, u "java/lang/Object"), (4, u "hash"), (86, .class_ 108), (1, u "java/lang/Enum$EnumDesc"), (2, .class_ 112), (0, u "java/lang/constant/Constable"), (0, .class_ 114), (0, u "java/lang/Comparable"), (0, .class_ 116), (0, u "java/io/Serializable"), (9, u "()I")] 77

def k5c0 : Code := { maxStack := 1, maxLocals := 1, code := jdk_37_method_2_code, exceptionTable := #[], attributes := #[] }
def k5m0 : Method := { name := "ordinal", desc := "()I", sig := { parameters := [], returnType := some .int }, accessFlags := 17, code := some k5c0 }
/-- java/lang/Enum -/
def k5 : Class := { plain "java/lang/Enum" (some 0) with
  accessFlags := 1057
  interfaces := #[2, 3, 4]
  cf := some (fileOf pool5 2 #[.nestMembers #[106]] #[{ accessFlags := 17, nameIndex := 9, descriptorIndex := 126, attributes := #[] }] 1057 12 #[111, 113, 115] #[{ accessFlags := 18, nameIndex := 5, descriptorIndex := 6, attributes := #[] }, { accessFlags := 18, nameIndex := 9, descriptorIndex := 10, attributes := #[] }, { accessFlags := 2, nameIndex := 19, descriptorIndex := 10, attributes := #[] }])
  fields := #[{ name := "name", type := (.object "java/lang/String"), accessFlags := 18, slot := 0, constantValue := 0 }, { name := "ordinal", type := .int, accessFlags := 18, slot := 1, constantValue := 0 }, { name := "hash", type := .int, accessFlags := 2, slot := 2, constantValue := 0 }]
  methods := #[k5m0]
  instanceTypes := #[(.object "java/lang/String"), .int, .int]
  staticTypes := #[]
  resolved := Array.replicate 204 none
  statics := none }

def pool6 : Array CpInfo := pool [(1, .class_ 2), (0, u "com/example/columngen/columngen/workload/Predicate$Operator"), (2, u "EQUAL"), (0, u "Lcom/example/columngen/columngen/workload/Predicate$Operator;"), (2, u "LESS"), (2, u "LESS_OR_EQUAL"), (0, .fieldref 1 14), (0, .nameAndType 15 6), (0, u "GREATER"), (0, .fieldref 1 17), (0, .nameAndType 18 6), (0, u "GREATER_OR_EQUAL"), (2, u "$VALUES"), (0, u "[Lcom/example/columngen/columngen/workload/Predicate$Operator;"), (6, .class_ 31), (1, u "java/lang/Enum"), (8, u "symbol"), (0, u "Ljava/lang/String;"), (22, .methodref 1 65), (0, .nameAndType 66 67), (0, u "ordinal"), (0, u "()I"), (42, u "admits"), (0, u "(I)Z"), (1, u "isLowerBound"), (0, u "()Z"), (8, .class_ 124), (0, u "com/example/columngen/columngen/workload/Predicate")] 21

def k6c0 : Code := { maxStack := 4, maxLocals := 2, code := prog_77_method_6_code, exceptionTable := #[], attributes := #[] }
def k6m0 : Method := { name := "admits", desc := "(I)Z", sig := { parameters := [.int], returnType := some .boolean }, accessFlags := 1, code := some k6c0 }
def k6c1 : Code := { maxStack := 2, maxLocals := 1, code := prog_77_method_7_code, exceptionTable := #[], attributes := #[] }
def k6m1 : Method := { name := "isLowerBound", desc := "()Z", sig := { parameters := [], returnType := some .boolean }, accessFlags := 1, code := some k6c1 }
/-- com/example/columngen/columngen/workload/Predicate$Operator -/
def k6 : Class := { plain "com/example/columngen/columngen/workload/Predicate$Operator" (some 5) with
  accessFlags := 16433
  interfaces := #[]
  cf := some (fileOf pool6 1 #[.nestHost 123] #[{ accessFlags := 1, nameIndex := 110, descriptorIndex := 111, attributes := #[] }, { accessFlags := 1, nameIndex := 113, descriptorIndex := 114, attributes := #[] }] 16433 29 #[] #[{ accessFlags := 16409, nameIndex := 5, descriptorIndex := 6, attributes := #[] }, { accessFlags := 16409, nameIndex := 9, descriptorIndex := 6, attributes := #[] }, { accessFlags := 16409, nameIndex := 12, descriptorIndex := 6, attributes := #[] }, { accessFlags := 16409, nameIndex := 15, descriptorIndex := 6, attributes := #[] }, { accessFlags := 16409, nameIndex := 18, descriptorIndex := 6, attributes := #[] }, { accessFlags := 18, nameIndex := 40, descriptorIndex := 41, attributes := #[] }, { accessFlags := 4122, nameIndex := 21, descriptorIndex := 22, attributes := #[] }])
  fields := #[{ name := "EQUAL", type := (.object "com/example/columngen/columngen/workload/Predicate$Operator"), accessFlags := 16409, slot := 0, constantValue := 0 }, { name := "LESS", type := (.object "com/example/columngen/columngen/workload/Predicate$Operator"), accessFlags := 16409, slot := 1, constantValue := 0 }, { name := "LESS_OR_EQUAL", type := (.object "com/example/columngen/columngen/workload/Predicate$Operator"), accessFlags := 16409, slot := 2, constantValue := 0 }, { name := "GREATER", type := (.object "com/example/columngen/columngen/workload/Predicate$Operator"), accessFlags := 16409, slot := 3, constantValue := 0 }, { name := "GREATER_OR_EQUAL", type := (.object "com/example/columngen/columngen/workload/Predicate$Operator"), accessFlags := 16409, slot := 4, constantValue := 0 }, { name := "symbol", type := (.object "java/lang/String"), accessFlags := 18, slot := 3, constantValue := 0 }, { name := "$VALUES", type := (.array (.object "com/example/columngen/columngen/workload/Predicate$Operator")), accessFlags := 4122, slot := 5, constantValue := 0 }]
  methods := #[k6m0, k6m1]
  instanceTypes := #[(.object "java/lang/String"), .int, .int, (.object "java/lang/String")]
  staticTypes := #[(.object "com/example/columngen/columngen/workload/Predicate$Operator"), (.object "com/example/columngen/columngen/workload/Predicate$Operator"), (.object "com/example/columngen/columngen/workload/Predicate$Operator"), (.object "com/example/columngen/columngen/workload/Predicate$Operator"), (.object "com/example/columngen/columngen/workload/Predicate$Operator"), (.array (.object "com/example/columngen/columngen/workload/Predicate$Operator"))]
  resolved := Array.replicate 146 none
  statics := some 0 }

def pool7 : Array CpInfo := pool [(1, u "java/lang/Cloneable"), (0, .class_ 1), (0, u "java/lang/Object"), (0, .class_ 3)] 3

/-- java/lang/Cloneable -/
def k7 : Class := { plain "java/lang/Cloneable" (some 0) with
  accessFlags := 1537
  interfaces := #[]
  cf := some (fileOf pool7 2 #[] #[] 1537 4 #[] #[])
  fields := #[]
  methods := #[]
  instanceTypes := #[]
  staticTypes := #[]
  resolved := Array.replicate 8 none
  statics := none }

/-- the primitive byte -/
def k8 : Class := { plain "byte" none with kind := .primitive 'B', accessFlags := 0x411 }
/-- [B -/
def k9 : Class := { plain "[B" (some 0) with kind := .array 8 .byte, interfaces := #[7, 4], accessFlags := 1041 }

/-- the primitive int -/
def k10 : Class := { plain "int" none with kind := .primitive 'I', accessFlags := 0x411 }
/-- [I -/
def k11 : Class := { plain "[I" (some 0) with kind := .array 10 .int, interfaces := #[7, 4], accessFlags := 1041 }

def heap : Heap := #[{ cls := 6, slots := #[.ref 1, .ref 4, .ref 5, .ref 2, .ref 3, .null], vm := .statics 6 },
  { cls := 6, slots := #[.null, .int 0, .int 0, .null], vm := .none },
  { cls := 6, slots := #[.null, .int 3, .int 0, .null], vm := .none },
  { cls := 6, slots := #[.null, .int 4, .int 0, .null], vm := .none },
  { cls := 6, slots := #[.null, .int 1, .int 0, .null], vm := .none },
  { cls := 6, slots := #[.null, .int 2, .int 0, .null], vm := .none }]
def classes : Array Class := #[k0, k1, k2, k3, k4, k5, k6, k7, k8, k9, k10, k11]
def interned : List (Array UInt16 × Addr) := []
def slotsUsed : Nat := 26
def theMethod : MethodId := ⟨1, 2⟩
def args0 : Array Value := #[.int 5, .int 1]
def aboutOver (below : List Frame) : State where
  vm := { classes := classes, interned := interned.toArray }
  heap := heap
  slotsUsed := slotsUsed
  threads := #[{ frames := .invoking theMethod args0 :: below }]
def below0 : List Frame := [.native { method := ⟨0, 0⟩, args := #[] }]
def about1 : State := aboutOver below0
def p0 : Program := .bare "" "" ""
def e0 : Env := launch0.env 0 0 0
theorem w_frames : about1.frames = Frame.invoking theMethod args0 :: below0 := rfl
set_option maxRecDepth 65536 in
theorem w_args : argsFit about1.vm theMethod args0 = true := by decide +kernel
set_option maxRecDepth 65536 in
theorem w_heap : heapFits about1 = true := by decide +kernel
set_option maxRecDepth 65536 in
theorem w_runnable : about1.curStatus? = some .runnable := by decide +kernel
set_option maxRecDepth 65536 in
theorem w_alone : about1.alone = true := by decide +kernel
set_option maxRecDepth 65536 in
theorem w_named : about1.methodNamed? x = some theMethod := by decide +kernel
set_option maxRecDepth 65536 in
theorem w_hears : about1.hears theMethod below0 = true := by decide +kernel
set_option maxRecDepth 65536 in
theorem w_ripe : about1.ripe theMethod args0 below0 = true := by decide +kernel
theorem w_running : about1.status = .running := rfl
set_option maxRecDepth 65536 in
theorem w_room : about1.hasRoom e0.platform room_1 = true :=
  launch0.hasRoom_least _ room_1 (by decide +kernel) (by decide +kernel) (by decide +kernel) (by decide +kernel) (by decide +kernel) (by decide +kernel)
theorem allAtoms_all (ts : List Jvm.Cond) (a : Array Jvm.Value) (st : Jvm.State) : (allAtoms ts).before a st = ts.all (fun c => c.before a st) := by
  induction ts with
  | nil => rfl
  | cons c t ih =>
    show (Jvm.Cond.and c (allAtoms t)).before a st = _
    rw [Jvm.Cond.before_and, ih, List.all_cons]
def words1 : List Jvm.Cond := Jvm.Cond.code x code maxLocals ret :: tables_1
/-- a 'code' word, met by the world's own term for the bytes: nothing is compared byte by byte -/
theorem code_word {y : MethodName} {bytes : ByteArray} {mx : Nat} {rt : Option FieldType} {a : Array Value} {s : State} {m : MethodId} {meth : Method} {c : Code} (h1 : s.methodNamed? y = some m) (h2 : s.vm.method? m = some meth) (h3 : meth.code = some c) (h4 : c.code = bytes)
    (h5 : (c.maxLocals == mx && c.exceptionTable.isEmpty && decide (c.maxStack ≤ mostOperands) && decide (meth.sig.returnType = rt) && !meth.locks && decide (parseMethodDescriptor y.desc = some meth.sig)) = true) : (Jvm.Cond.code y bytes mx rt).before a s = true := by
  simp only [Bool.and_eq_true, beq_iff_eq, Bool.not_eq_true', decide_eq_true_eq] at h5
  obtain ⟨⟨⟨⟨⟨g1, g2⟩, g3⟩, g4⟩, g5⟩, g6⟩ := h5
  simp [Cond.before, Cond.holds, Cond.value, h1, h2, h3, h4, g1, g2, g3, g4, g5, g6]
def isCode : Jvm.Cond → Bool
  | .code _ _ _ _ => true
  | _ => false
theorem all_split {L : List Jvm.Cond} {P : Jvm.Cond → Bool} (h1 : L.all (fun c => isCode c || P c) = true) (h2 : ∀ c ∈ L.filter isCode, P c = true) : L.all P = true := by
  refine List.all_eq_true.mpr fun c hc => ?_
  have h := List.all_eq_true.mp h1 c hc
  rcases Bool.eq_false_or_eq_true (isCode c) with hi | hi
  · exact h2 c (List.mem_filter.mpr ⟨hc, hi⟩)
  · simpa [hi] using h
set_option maxRecDepth 65536 in
theorem w_c0 : (Jvm.Cond.code x code maxLocals ret).before args0 about1 = true := code_word (m := ⟨1, 2⟩) (meth := k1m2) (c := k1c2) (by decide +kernel) rfl rfl rfl (by decide +kernel)
set_option maxRecDepth 65536 in
theorem w_c1 : (Jvm.Cond.code ({ cls := "com/example/columngen/columngen/workload/OperatorIsLowerBoundPinLaw", name := "pick", desc := "(I)Lcom/example/columngen/columngen/workload/Predicate$Operator;" } : Jvm.MethodName) method_2_code (1 : Nat) (Option.some (Jvm.ClassFile.FieldType.object "com/example/columngen/columngen/workload/Predicate$Operator"))).before args0 about1 = true := code_word (m := ⟨1, 1⟩) (meth := k1m1) (c := k1c1) (by decide +kernel) rfl rfl rfl (by decide +kernel)
set_option maxRecDepth 65536 in
theorem w_c2 : (Jvm.Cond.code ({ cls := "com/example/columngen/columngen/workload/Predicate$Operator", name := "isLowerBound", desc := "()Z" } : Jvm.MethodName) prog_77_method_7_code (1 : Nat) (Option.some Jvm.ClassFile.FieldType.boolean)).before args0 about1 = true := code_word (m := ⟨6, 1⟩) (meth := k6m1) (c := k6c1) (by decide +kernel) rfl rfl rfl (by decide +kernel)
set_option maxRecDepth 65536 in
theorem w_c3 : (Jvm.Cond.code ({ cls := "com/example/columngen/columngen/workload/Predicate$Operator", name := "admits", desc := "(I)Z" } : Jvm.MethodName) prog_77_method_6_code (2 : Nat) (Option.some Jvm.ClassFile.FieldType.boolean)).before args0 about1 = true := code_word (m := ⟨6, 0⟩) (meth := k6m0) (c := k6c0) (by decide +kernel) rfl rfl rfl (by decide +kernel)
set_option maxRecDepth 65536 in
theorem w_c4 : (Jvm.Cond.code ({ cls := "java/lang/Enum", name := "ordinal", desc := "()I" } : Jvm.MethodName) jdk_37_method_2_code (1 : Nat) (Option.some Jvm.ClassFile.FieldType.int)).before args0 about1 = true := code_word (m := ⟨5, 0⟩) (meth := k5m0) (c := k5c0) (by decide +kernel) rfl rfl rfl (by decide +kernel)
def codes1 : List Jvm.Cond := [Jvm.Cond.code x code maxLocals ret, Jvm.Cond.code ({ cls := "com/example/columngen/columngen/workload/OperatorIsLowerBoundPinLaw", name := "pick", desc := "(I)Lcom/example/columngen/columngen/workload/Predicate$Operator;" } : Jvm.MethodName) method_2_code (1 : Nat) (Option.some (Jvm.ClassFile.FieldType.object "com/example/columngen/columngen/workload/Predicate$Operator")), Jvm.Cond.code ({ cls := "com/example/columngen/columngen/workload/Predicate$Operator", name := "isLowerBound", desc := "()Z" } : Jvm.MethodName) prog_77_method_7_code (1 : Nat) (Option.some Jvm.ClassFile.FieldType.boolean), Jvm.Cond.code ({ cls := "com/example/columngen/columngen/workload/Predicate$Operator", name := "admits", desc := "(I)Z" } : Jvm.MethodName) prog_77_method_6_code (2 : Nat) (Option.some Jvm.ClassFile.FieldType.boolean), Jvm.Cond.code ({ cls := "java/lang/Enum", name := "ordinal", desc := "()I" } : Jvm.MethodName) jdk_37_method_2_code (1 : Nat) (Option.some Jvm.ClassFile.FieldType.int)]
set_option maxRecDepth 65536 in
theorem codes_eq : words1.filter isCode = codes1 := rfl
theorem w_codes : ∀ c ∈ words1.filter isCode, c.before args0 about1 = true := by
  rw [codes_eq]
  intro c hc
  simp only [codes1, List.mem_cons, List.not_mem_nil, or_false] at hc
  rcases hc with rfl | rfl | rfl | rfl | rfl
  · exact w_c0
  · exact w_c1
  · exact w_c2
  · exact w_c3
  · exact w_c4
set_option maxRecDepth 65536 in
theorem w_t1 : (words1.take 24).all (fun c => isCode c || c.before args0 about1) = true := by decide +kernel
set_option maxRecDepth 65536 in
theorem w_t2 : (words1.drop 24).all (fun c => isCode c || c.before args0 about1) = true := by decide +kernel
theorem w_tables : (allAtoms (Jvm.Cond.code x code maxLocals ret :: tables_1)).before args0 about1 = true := by
  rw [allAtoms_all]
  show words1.all (fun c => c.before args0 about1) = true
  refine all_split ?_ w_codes
  rw [← List.take_append_drop 24 words1, List.all_append, w_t1, w_t2]
  rfl
set_option maxRecDepth 65536 in
theorem w_case : (Jvm.Cond.and given_1 narrow_1).before args0 about1 = true := by decide +kernel
theorem w_applies : (headSpec (Jvm.Cond.code x code maxLocals ret :: tables_1) room_1).applies x e0.platform about1 = true :=
  (Spec.applies_iff w_frames).mpr ⟨w_running, w_runnable, w_alone, w_named, w_hears, w_ripe, w_room, w_tables⟩
theorem atStart : AtStart classFile x code maxLocals ret World_1 tables_1 room_1 Calls_1 rest_1 Pre_1 launch0 p0 e0 about1 theMethod args0 below0 :=
  ⟨lists_1, trivial, launch0.admits_env _ _ _, launch0.least_env, fairChoices_fair.cas, fairChoices_fair.clock, w_frames, w_args, w_heap, w_applies, trivial, trivial, w_case⟩
end start1
theorem witness_1 : WitnessClaimed_1 := ⟨start1.p0, start1.e0, start1.about1, start1.theMethod, start1.args0, start1.below0, start1.atStart⟩
end Jvm.Pilot.@@N@@
