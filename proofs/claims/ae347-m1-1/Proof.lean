import JvmDerived
import JvmDerived.Pilot.@@N@@Statement
import JvmDerived.Pilot.@@N@@Code
set_option linter.unusedVariables false
set_option linter.unusedSimpArgs false
namespace Jvm.RoadKit
open Sem ClassFile Op Lib Jvm.Stand Jvm.Free Jvm.LawKit
section New
variable {p : Program} {l : Launch} {e : Env} {R : Room} {s : State} {m : MethodId} {args : Array Value} {below : List Frame} {meth : Method} {c : Code} {T : State} {locs : List Loc} {cells slots : Nat}
theorem retI (X : Stand p l e R s m args below meth c T locs cells slots) (hx : p.tables.exec = Jvm.exec) {pc : Nat} {Ls : Array Slot} {z : Int32} {rest : List Value} (hret : meth.sig.returnType = some .int) (hd : decode c.code pc = .ok (.ireturn, 1)) {fs : List Frame}
    (hl : ∀ (f : JFrame) (acts : List Action), f.method = m → f.locked = none → f.entered = [] → (doReturn e (T.setTop f) acts (some (.int z))).1 = T.setFrames fs) : Steps p.tables e below (T.setTop (mkF m pc Ls (.int z :: rest))) (T.setFrames fs) := by
  have hm' : T.vm.method? m = some meth := X.method'
  have hn : narrow .int (.int z) = .int z := rfl
  show Steps p.tables e below (T.setTop { method := m, pc := pc, locals := Ls, stack := _ :: rest, locked := none }) _
  jvm_step X.here [X.here.top, hx, hd, hm', hret, hn]
  first | (intro acts; rw [hl _ acts rfl rfl rfl]) | rw [hl _ _ rfl rfl rfl]
  exact Steps.refl _
abbrev vI (x : Int32) : Slot := .val (.int x)
abbrev vJ (x : Int64) : Slot := .val (.long x)
abbrev vR (x : Addr) : Slot := .val (.ref x)
abbrev iI (x : Int32) : Value := .int x
abbrev iJ (x : Int64) : Value := .long x
abbrev iR (x : Addr) : Value := .ref x
/-- from one frame to another over the same heap -/
def own_Mid (X : Stand p l e R s m args below meth c T locs cells slots) (h : Heap) (F F' : JFrame) : Prop :=
  ∃ T', Stand p l e R s m args below meth c T' locs cells slots ∧ T'.heap = h ∧ ∀ t, Steps p.tables e below (T'.setTop F') t → Steps p.tables e below (T.setTop F) t
end New
end Jvm.RoadKit
namespace Jvm.Pilot.@@N@@
open Jvm Jvm.ClassFile Sem Op Lib Jvm.Free Jvm.Stand Jvm.LawKit Jvm.RoadKit Bundle Jvm.Pilot.@@N@@.Jvm.D
theorem pd_0 : parseMethodDescriptor "(I)Lcom/example/threefold/threefold/protocol/ActivationStatus;" = some ⟨[.int], some (.object "com/example/threefold/threefold/protocol/ActivationStatus")⟩ := by decide +kernel
theorem pd_1 : parseMethodDescriptor "()Z" = some ⟨[], some .boolean⟩ := by decide +kernel

theorem own_fldEq {s : State} {args : Array Value} {t : Term} {a : Addr} {C n d : String} {k : Int32} (ht : t.eval args s none [] s = some (.ref a)) (h : (Jvm.Cond.eq (Term.field t C n d) (Term.int k)).value args s none s [] = some true) : Fld s s.heap a C n d (.int k) := by
  obtain ⟨x, y, e1, e2, -, -⟩ := cmp_v (Or.inl h)
  have e3 : (Term.int k).eval args s none [] s = some (.int k) := Term.int_eval k
  obtain rfl : y = .int k := Option.some.inj (e2.symm.trans e3)
  have hx : x = .int k := by
    simp only [Cond.value, e1, e2] at h
    cases x <;> simp at h
    rw [h]
  subst hx
  exact Fld.start ((fld_at ht).symm.trans e1)

theorem own_rem (x y : Int32) (d : Int) (hy : y.toInt = d) (hd : 0 < d) : 0 ≤ ((x &&& 2147483647) % y).toInt ∧ ((x &&& 2147483647) % y).toInt < d := by
  have h0 : 0 ≤ (x &&& 2147483647).toInt := (c_and x 2147483647 (by decide)).1
  rw [(c_irem (x &&& 2147483647) y d hy).1 h0]
  exact ⟨Int.emod_nonneg _ (by omega), Int.emod_lt_of_pos _ hd⟩

theorem own_small5 (v : Int32) (h0 : 0 ≤ v.toInt) (h1 : v.toInt < 5) : v = 0 ∨ v = 1 ∨ v = 2 ∨ v = 3 ∨ v = 4 := by
  have h : v.toInt = 0 ∨ v.toInt = 1 ∨ v.toInt = 2 ∨ v.toInt = 3 ∨ v.toInt = 4 := by omega
  rcases h with h | h | h | h | h
  · exact Or.inl (Int32.toInt_inj.mp (h.trans (by decide)))
  · exact Or.inr (Or.inl (Int32.toInt_inj.mp (h.trans (by decide))))
  · exact Or.inr (Or.inr (Or.inl (Int32.toInt_inj.mp (h.trans (by decide)))))
  · exact Or.inr (Or.inr (Or.inr (Or.inl (Int32.toInt_inj.mp (h.trans (by decide))))))
  · exact Or.inr (Or.inr (Or.inr (Or.inr ((Int32.toInt_inj.mp (h.trans (by decide)))))))

theorem d1_0 : decode method_3_code 0 = .ok (.iload_n 0, 1) := by decide +kernel
theorem d1_1 : decode method_3_code 1 = .ok (.ifCond .ne 7, 3) := by decide +kernel
theorem d1_4 : decode method_3_code 4 = .ok (.getstatic 20, 3) := by decide +kernel
theorem d1_7 : decode method_3_code 7 = .ok (.areturn, 1) := by decide +kernel
theorem pn_0 : plainName "com/example/threefold/threefold/protocol/ActivationStatusIsPendingPinLaw" = true := by first | (simp [plainName, overriddenIn]; done) | decide +kernel
theorem ef_1_0 (m : MethodId)  : entryFrame m #[(.int (0 : Int32))] 1 = mkF m 0 #[.val (.int (0 : Int32))] [] := by first | (simp [entryFrame, mkF, argsToLocals, Value.category]; done) | rfl
def Q1_0 (Z : State) (s_CREATED : Addr) (s_BLOCKED : Addr) (s_OTP_USED : Addr) (s_REMOVED : Addr) (s_ACTIVE : Addr) (h0 : Heap) (v : Option Value) (h : Heap) (L : List Loc) : Prop := v = some (.ref s_CREATED) ∧ L = [] ∧ h = h0
set_option maxRecDepth 65536 in
set_option maxHeartbeats 40000000 in
theorem rm1_0 (l : Launch) (Z : State) (a0 : Array Value) (hw : ∀ d ∈ tables_1, d.before a0 Z = true) (ws : List Jvm.Cond) (s_CREATED : Addr) (s_BLOCKED : Addr) (s_OTP_USED : Addr) (s_REMOVED : Addr) (s_ACTIVE : Addr) (h0 : Heap) (S_CREATED : Sta Z h0 "com/example/threefold/threefold/protocol/ActivationStatus" "CREATED" "Lcom/example/threefold/threefold/protocol/ActivationStatus;" (.ref s_CREATED)) (E_CREATED : Exa Z h0 s_CREATED "com/example/threefold/threefold/protocol/ActivationStatus") (S_BLOCKED : Sta Z h0 "com/example/threefold/threefold/protocol/ActivationStatus" "BLOCKED" "Lcom/example/threefold/threefold/protocol/ActivationStatus;" (.ref s_BLOCKED)) (E_BLOCKED : Exa Z h0 s_BLOCKED "com/example/threefold/threefold/protocol/ActivationStatus") (F_ordinal_BLOCKED : Fld Z h0 s_BLOCKED "java/lang/Enum" "ordinal" "I" (.int (3 : Int32))) (F_ordinal_CREATED : Fld Z h0 s_CREATED "java/lang/Enum" "ordinal" "I" (.int (0 : Int32))) (S_OTP_USED : Sta Z h0 "com/example/threefold/threefold/protocol/ActivationStatus" "OTP_USED" "Lcom/example/threefold/threefold/protocol/ActivationStatus;" (.ref s_OTP_USED)) (E_OTP_USED : Exa Z h0 s_OTP_USED "com/example/threefold/threefold/protocol/ActivationStatus") (F_ordinal_OTP_USED : Fld Z h0 s_OTP_USED "java/lang/Enum" "ordinal" "I" (.int (1 : Int32))) (S_REMOVED : Sta Z h0 "com/example/threefold/threefold/protocol/ActivationStatus" "REMOVED" "Lcom/example/threefold/threefold/protocol/ActivationStatus;" (.ref s_REMOVED)) (E_REMOVED : Exa Z h0 s_REMOVED "com/example/threefold/threefold/protocol/ActivationStatus") (F_ordinal_REMOVED : Fld Z h0 s_REMOVED "java/lang/Enum" "ordinal" "I" (.int (4 : Int32))) (S_ACTIVE : Sta Z h0 "com/example/threefold/threefold/protocol/ActivationStatus" "ACTIVE" "Lcom/example/threefold/threefold/protocol/ActivationStatus;" (.ref s_ACTIVE)) (E_ACTIVE : Exa Z h0 s_ACTIVE "com/example/threefold/threefold/protocol/ActivationStatus") (F_ordinal_ACTIVE : Fld Z h0 s_ACTIVE "java/lang/Enum" "ordinal" "I" (.int (2 : Int32))) :
    MetFree l (⟨"com/example/threefold/threefold/protocol/ActivationStatusIsPendingPinLaw", "pick", "(I)Lcom/example/threefold/threefold/protocol/ActivationStatus;"⟩ : MethodName) (head1 (Jvm.Cond.code (⟨"com/example/threefold/threefold/protocol/ActivationStatusIsPendingPinLaw", "pick", "(I)Lcom/example/threefold/threefold/protocol/ActivationStatus;"⟩ : MethodName) method_3_code 1 (some (.object "com/example/threefold/threefold/protocol/ActivationStatus")) :: ws) ({ frames := 0, cells := 0, slots := 0, locals := 0 } : Room)) (fun a U => a = #[(.int (0 : Int32))] ∧ Z.Warmed39 U.vm ∧ U.heap = h0) (fun _ _ _ _ _ => True) (fun _ U o U' => ∃ v L, o = .returned v ∧ Q1_0 Z s_CREATED s_BLOCKED s_OTP_USED s_REMOVED s_ACTIVE h0 v U'.heap L ∧ FrameEnd U o U' L ({ frames := 0, cells := 0, slots := 0, locals := 0 } : Room).cells ({ frames := 0, cells := 0, slots := 0, locals := 0 } : Room).slots) := by
  refine MetFree.of_bodySF (plainFor_of_name pn_0) hisR ?_
  intro p e s m args below meth c s₁ Bd hml0 hP hK
  obtain ⟨rfl, hZ, hh⟩ := hP
  have hx := Bd.exec
  have hby := Bd.bytes
  have hml : c.maxLocals = 1 := hml0
  have hown : s.vm.findClass "com/example/threefold/threefold/protocol/ActivationStatusIsPendingPinLaw" = some m.cls := findClass_of_methodNamed Bd.named
  have hnm := (name_of_methodNamed Bd.named Bd.method).1
  have X0 : Stand p l e ({ frames := 0, cells := 0, slots := 0, locals := 0 } : Room) s m #[(.int (0 : Int32))] below meth c s₁ [] 0 0 := Stand.of_body Bd
  have e0 : s₁.heap = h0 := by rw [← hh, Bd.state]; rfl
  have pre0 : ∀ t, Steps p.tables e below (s₁.setTop (mkF m 0 #[.val (.int (0 : Int32))] [])) t → Steps p.tables e below (s₁.setTop (entryFrame m #[(.int (0 : Int32))] 1)) t := fun t k => castTop (ef_1_0 m ) k
  obtain ⟨T1, X1, e1, st1⟩ := getS2 X0 hx hZ hown (host := "") (Or.inl (hw _ (List.mem_of_getElem? (i := 5) rfl))) Via.refl e0 S_CREATED (g := (mkF m 4 #[vI 0] [])) rfl (hb hby d1_4)
  obtain ⟨fs, hr, hrun, hended, hW, hsame⟩ := X1.leave (v := some (.ref s_CREATED)) (fun h => by rw [Bd.returns] at h; cases h)
  refine ⟨_, _, pre0 _ ?_, hrun, hended, _, _, rfl, ?_, ⟨_, rfl⟩, hW, hsame.mono (by decide) (by decide)⟩
  · show Steps _ _ _ (s₁.setTop (mkF m 0 #[vI 0] [])) _
    refine XS.iloadN X0.here hx rfl (hb hby d1_0) rfl ?_
    show Steps _ _ _ (s₁.setTop (mkF m 1 #[vI 0] [iI 0])) _
    refine XS.ifNo X0.here hx rfl (hb hby d1_1) rfl ((if0 _ _).trans (teq (by decide : (0 : Int32) = (0 : Int32))).2) ?_
    show Steps _ _ _ (s₁.setTop (mkF m 4 #[vI 0] [])) _
    refine st1 _ ?_
    show Steps _ _ _ (T1.setTop (mkF m 7 #[vI 0] [iR s_CREATED])) _
    jvm_step X1.here [X1.here.top, hx, (hb hby d1_7), X1.method', Bd.returns, Value.isRef, FieldType.isReference]
    first | (intro acts; rw [hr _ acts rfl rfl rfl]) | rw [hr _ _ rfl rfl rfl]
    exact Steps.refl _
  · show Q1_0 Z s_CREATED s_BLOCKED s_OTP_USED s_REMOVED s_ACTIVE h0 _ T1.heap _
    rw [e1]
    exact ⟨rfl, rfl, rfl⟩
theorem d1_8 : decode method_3_code 8 = .ok (.iload_n 0, 1) := by decide +kernel
theorem d1_9 : decode method_3_code 9 = .ok (.iconst 1, 1) := by decide +kernel
theorem d1_10 : decode method_3_code 10 = .ok (.if_icmp .ne 7, 3) := by decide +kernel
theorem d1_13 : decode method_3_code 13 = .ok (.getstatic 24, 3) := by decide +kernel
theorem d1_16 : decode method_3_code 16 = .ok (.areturn, 1) := by decide +kernel
theorem ef_1_1 (m : MethodId)  : entryFrame m #[(.int (1 : Int32))] 1 = mkF m 0 #[.val (.int (1 : Int32))] [] := by first | (simp [entryFrame, mkF, argsToLocals, Value.category]; done) | rfl
def Q1_1 (Z : State) (s_CREATED : Addr) (s_BLOCKED : Addr) (s_OTP_USED : Addr) (s_REMOVED : Addr) (s_ACTIVE : Addr) (h0 : Heap) (v : Option Value) (h : Heap) (L : List Loc) : Prop := v = some (.ref s_OTP_USED) ∧ L = [] ∧ h = h0
set_option maxRecDepth 65536 in
set_option maxHeartbeats 40000000 in
theorem rm1_1 (l : Launch) (Z : State) (a0 : Array Value) (hw : ∀ d ∈ tables_1, d.before a0 Z = true) (ws : List Jvm.Cond) (s_CREATED : Addr) (s_BLOCKED : Addr) (s_OTP_USED : Addr) (s_REMOVED : Addr) (s_ACTIVE : Addr) (h0 : Heap) (S_CREATED : Sta Z h0 "com/example/threefold/threefold/protocol/ActivationStatus" "CREATED" "Lcom/example/threefold/threefold/protocol/ActivationStatus;" (.ref s_CREATED)) (E_CREATED : Exa Z h0 s_CREATED "com/example/threefold/threefold/protocol/ActivationStatus") (S_BLOCKED : Sta Z h0 "com/example/threefold/threefold/protocol/ActivationStatus" "BLOCKED" "Lcom/example/threefold/threefold/protocol/ActivationStatus;" (.ref s_BLOCKED)) (E_BLOCKED : Exa Z h0 s_BLOCKED "com/example/threefold/threefold/protocol/ActivationStatus") (F_ordinal_BLOCKED : Fld Z h0 s_BLOCKED "java/lang/Enum" "ordinal" "I" (.int (3 : Int32))) (F_ordinal_CREATED : Fld Z h0 s_CREATED "java/lang/Enum" "ordinal" "I" (.int (0 : Int32))) (S_OTP_USED : Sta Z h0 "com/example/threefold/threefold/protocol/ActivationStatus" "OTP_USED" "Lcom/example/threefold/threefold/protocol/ActivationStatus;" (.ref s_OTP_USED)) (E_OTP_USED : Exa Z h0 s_OTP_USED "com/example/threefold/threefold/protocol/ActivationStatus") (F_ordinal_OTP_USED : Fld Z h0 s_OTP_USED "java/lang/Enum" "ordinal" "I" (.int (1 : Int32))) (S_REMOVED : Sta Z h0 "com/example/threefold/threefold/protocol/ActivationStatus" "REMOVED" "Lcom/example/threefold/threefold/protocol/ActivationStatus;" (.ref s_REMOVED)) (E_REMOVED : Exa Z h0 s_REMOVED "com/example/threefold/threefold/protocol/ActivationStatus") (F_ordinal_REMOVED : Fld Z h0 s_REMOVED "java/lang/Enum" "ordinal" "I" (.int (4 : Int32))) (S_ACTIVE : Sta Z h0 "com/example/threefold/threefold/protocol/ActivationStatus" "ACTIVE" "Lcom/example/threefold/threefold/protocol/ActivationStatus;" (.ref s_ACTIVE)) (E_ACTIVE : Exa Z h0 s_ACTIVE "com/example/threefold/threefold/protocol/ActivationStatus") (F_ordinal_ACTIVE : Fld Z h0 s_ACTIVE "java/lang/Enum" "ordinal" "I" (.int (2 : Int32))) :
    MetFree l (⟨"com/example/threefold/threefold/protocol/ActivationStatusIsPendingPinLaw", "pick", "(I)Lcom/example/threefold/threefold/protocol/ActivationStatus;"⟩ : MethodName) (head1 (Jvm.Cond.code (⟨"com/example/threefold/threefold/protocol/ActivationStatusIsPendingPinLaw", "pick", "(I)Lcom/example/threefold/threefold/protocol/ActivationStatus;"⟩ : MethodName) method_3_code 1 (some (.object "com/example/threefold/threefold/protocol/ActivationStatus")) :: ws) ({ frames := 0, cells := 0, slots := 0, locals := 0 } : Room)) (fun a U => a = #[(.int (1 : Int32))] ∧ Z.Warmed39 U.vm ∧ U.heap = h0) (fun _ _ _ _ _ => True) (fun _ U o U' => ∃ v L, o = .returned v ∧ Q1_1 Z s_CREATED s_BLOCKED s_OTP_USED s_REMOVED s_ACTIVE h0 v U'.heap L ∧ FrameEnd U o U' L ({ frames := 0, cells := 0, slots := 0, locals := 0 } : Room).cells ({ frames := 0, cells := 0, slots := 0, locals := 0 } : Room).slots) := by
  refine MetFree.of_bodySF (plainFor_of_name pn_0) hisR ?_
  intro p e s m args below meth c s₁ Bd hml0 hP hK
  obtain ⟨rfl, hZ, hh⟩ := hP
  have hx := Bd.exec
  have hby := Bd.bytes
  have hml : c.maxLocals = 1 := hml0
  have hown : s.vm.findClass "com/example/threefold/threefold/protocol/ActivationStatusIsPendingPinLaw" = some m.cls := findClass_of_methodNamed Bd.named
  have hnm := (name_of_methodNamed Bd.named Bd.method).1
  have X0 : Stand p l e ({ frames := 0, cells := 0, slots := 0, locals := 0 } : Room) s m #[(.int (1 : Int32))] below meth c s₁ [] 0 0 := Stand.of_body Bd
  have e0 : s₁.heap = h0 := by rw [← hh, Bd.state]; rfl
  have pre0 : ∀ t, Steps p.tables e below (s₁.setTop (mkF m 0 #[.val (.int (1 : Int32))] [])) t → Steps p.tables e below (s₁.setTop (entryFrame m #[(.int (1 : Int32))] 1)) t := fun t k => castTop (ef_1_1 m ) k
  obtain ⟨T1, X1, e1, st1⟩ := getS2 X0 hx hZ hown (host := "") (Or.inl (hw _ (List.mem_of_getElem? (i := 18) rfl))) Via.refl e0 S_OTP_USED (g := (mkF m 13 #[vI 1] [])) rfl (hb hby d1_13)
  obtain ⟨fs, hr, hrun, hended, hW, hsame⟩ := X1.leave (v := some (.ref s_OTP_USED)) (fun h => by rw [Bd.returns] at h; cases h)
  refine ⟨_, _, pre0 _ ?_, hrun, hended, _, _, rfl, ?_, ⟨_, rfl⟩, hW, hsame.mono (by decide) (by decide)⟩
  · show Steps _ _ _ (s₁.setTop (mkF m 0 #[vI 1] [])) _
    refine XS.iloadN X0.here hx rfl (hb hby d1_0) rfl ?_
    show Steps _ _ _ (s₁.setTop (mkF m 1 #[vI 1] [iI 1])) _
    refine XS.ifYes X0.here hx rfl (pc0 := 1) (pc' := 8) rfl (hb hby d1_1) rfl ((if0 _ _).trans (feq (by decide : ¬ ((1 : Int32) = (0 : Int32)))).2) (by decide) (by decide) ?_
    show Steps _ _ _ (s₁.setTop (mkF m 8 #[vI 1] [])) _
    refine XS.iloadN X0.here hx rfl (hb hby d1_8) rfl ?_
    show Steps _ _ _ (s₁.setTop (mkF m 9 #[vI 1] [iI 1])) _
    refine XS.iconst X0.here hx rfl (hb hby d1_9) ?_
    show Steps _ _ _ (s₁.setTop (mkF m 10 #[vI 1] [iI 1, iI 1])) _
    refine XS.icmpNo X0.here hx rfl (hb hby d1_10) rfl (teq (by decide : (1 : Int32) = (1 : Int32))).2 ?_
    show Steps _ _ _ (s₁.setTop (mkF m 13 #[vI 1] [])) _
    refine st1 _ ?_
    show Steps _ _ _ (T1.setTop (mkF m 16 #[vI 1] [iR s_OTP_USED])) _
    jvm_step X1.here [X1.here.top, hx, (hb hby d1_16), X1.method', Bd.returns, Value.isRef, FieldType.isReference]
    first | (intro acts; rw [hr _ acts rfl rfl rfl]) | rw [hr _ _ rfl rfl rfl]
    exact Steps.refl _
  · show Q1_1 Z s_CREATED s_BLOCKED s_OTP_USED s_REMOVED s_ACTIVE h0 _ T1.heap _
    rw [e1]
    exact ⟨rfl, rfl, rfl⟩
theorem d1_17 : decode method_3_code 17 = .ok (.iload_n 0, 1) := by decide +kernel
theorem d1_18 : decode method_3_code 18 = .ok (.iconst 2, 1) := by decide +kernel
theorem d1_19 : decode method_3_code 19 = .ok (.if_icmp .ne 7, 3) := by decide +kernel
theorem d1_22 : decode method_3_code 22 = .ok (.getstatic 27, 3) := by decide +kernel
theorem d1_25 : decode method_3_code 25 = .ok (.areturn, 1) := by decide +kernel
theorem ef_1_2 (m : MethodId)  : entryFrame m #[(.int (2 : Int32))] 1 = mkF m 0 #[.val (.int (2 : Int32))] [] := by first | (simp [entryFrame, mkF, argsToLocals, Value.category]; done) | rfl
def Q1_2 (Z : State) (s_CREATED : Addr) (s_BLOCKED : Addr) (s_OTP_USED : Addr) (s_REMOVED : Addr) (s_ACTIVE : Addr) (h0 : Heap) (v : Option Value) (h : Heap) (L : List Loc) : Prop := v = some (.ref s_ACTIVE) ∧ L = [] ∧ h = h0
set_option maxRecDepth 65536 in
set_option maxHeartbeats 40000000 in
theorem rm1_2 (l : Launch) (Z : State) (a0 : Array Value) (hw : ∀ d ∈ tables_1, d.before a0 Z = true) (ws : List Jvm.Cond) (s_CREATED : Addr) (s_BLOCKED : Addr) (s_OTP_USED : Addr) (s_REMOVED : Addr) (s_ACTIVE : Addr) (h0 : Heap) (S_CREATED : Sta Z h0 "com/example/threefold/threefold/protocol/ActivationStatus" "CREATED" "Lcom/example/threefold/threefold/protocol/ActivationStatus;" (.ref s_CREATED)) (E_CREATED : Exa Z h0 s_CREATED "com/example/threefold/threefold/protocol/ActivationStatus") (S_BLOCKED : Sta Z h0 "com/example/threefold/threefold/protocol/ActivationStatus" "BLOCKED" "Lcom/example/threefold/threefold/protocol/ActivationStatus;" (.ref s_BLOCKED)) (E_BLOCKED : Exa Z h0 s_BLOCKED "com/example/threefold/threefold/protocol/ActivationStatus") (F_ordinal_BLOCKED : Fld Z h0 s_BLOCKED "java/lang/Enum" "ordinal" "I" (.int (3 : Int32))) (F_ordinal_CREATED : Fld Z h0 s_CREATED "java/lang/Enum" "ordinal" "I" (.int (0 : Int32))) (S_OTP_USED : Sta Z h0 "com/example/threefold/threefold/protocol/ActivationStatus" "OTP_USED" "Lcom/example/threefold/threefold/protocol/ActivationStatus;" (.ref s_OTP_USED)) (E_OTP_USED : Exa Z h0 s_OTP_USED "com/example/threefold/threefold/protocol/ActivationStatus") (F_ordinal_OTP_USED : Fld Z h0 s_OTP_USED "java/lang/Enum" "ordinal" "I" (.int (1 : Int32))) (S_REMOVED : Sta Z h0 "com/example/threefold/threefold/protocol/ActivationStatus" "REMOVED" "Lcom/example/threefold/threefold/protocol/ActivationStatus;" (.ref s_REMOVED)) (E_REMOVED : Exa Z h0 s_REMOVED "com/example/threefold/threefold/protocol/ActivationStatus") (F_ordinal_REMOVED : Fld Z h0 s_REMOVED "java/lang/Enum" "ordinal" "I" (.int (4 : Int32))) (S_ACTIVE : Sta Z h0 "com/example/threefold/threefold/protocol/ActivationStatus" "ACTIVE" "Lcom/example/threefold/threefold/protocol/ActivationStatus;" (.ref s_ACTIVE)) (E_ACTIVE : Exa Z h0 s_ACTIVE "com/example/threefold/threefold/protocol/ActivationStatus") (F_ordinal_ACTIVE : Fld Z h0 s_ACTIVE "java/lang/Enum" "ordinal" "I" (.int (2 : Int32))) :
    MetFree l (⟨"com/example/threefold/threefold/protocol/ActivationStatusIsPendingPinLaw", "pick", "(I)Lcom/example/threefold/threefold/protocol/ActivationStatus;"⟩ : MethodName) (head1 (Jvm.Cond.code (⟨"com/example/threefold/threefold/protocol/ActivationStatusIsPendingPinLaw", "pick", "(I)Lcom/example/threefold/threefold/protocol/ActivationStatus;"⟩ : MethodName) method_3_code 1 (some (.object "com/example/threefold/threefold/protocol/ActivationStatus")) :: ws) ({ frames := 0, cells := 0, slots := 0, locals := 0 } : Room)) (fun a U => a = #[(.int (2 : Int32))] ∧ Z.Warmed39 U.vm ∧ U.heap = h0) (fun _ _ _ _ _ => True) (fun _ U o U' => ∃ v L, o = .returned v ∧ Q1_2 Z s_CREATED s_BLOCKED s_OTP_USED s_REMOVED s_ACTIVE h0 v U'.heap L ∧ FrameEnd U o U' L ({ frames := 0, cells := 0, slots := 0, locals := 0 } : Room).cells ({ frames := 0, cells := 0, slots := 0, locals := 0 } : Room).slots) := by
  refine MetFree.of_bodySF (plainFor_of_name pn_0) hisR ?_
  intro p e s m args below meth c s₁ Bd hml0 hP hK
  obtain ⟨rfl, hZ, hh⟩ := hP
  have hx := Bd.exec
  have hby := Bd.bytes
  have hml : c.maxLocals = 1 := hml0
  have hown : s.vm.findClass "com/example/threefold/threefold/protocol/ActivationStatusIsPendingPinLaw" = some m.cls := findClass_of_methodNamed Bd.named
  have hnm := (name_of_methodNamed Bd.named Bd.method).1
  have X0 : Stand p l e ({ frames := 0, cells := 0, slots := 0, locals := 0 } : Room) s m #[(.int (2 : Int32))] below meth c s₁ [] 0 0 := Stand.of_body Bd
  have e0 : s₁.heap = h0 := by rw [← hh, Bd.state]; rfl
  have pre0 : ∀ t, Steps p.tables e below (s₁.setTop (mkF m 0 #[.val (.int (2 : Int32))] [])) t → Steps p.tables e below (s₁.setTop (entryFrame m #[(.int (2 : Int32))] 1)) t := fun t k => castTop (ef_1_2 m ) k
  obtain ⟨T1, X1, e1, st1⟩ := getS2 X0 hx hZ hown (host := "") (Or.inl (hw _ (List.mem_of_getElem? (i := 21) rfl))) Via.refl e0 S_ACTIVE (g := (mkF m 22 #[vI 2] [])) rfl (hb hby d1_22)
  obtain ⟨fs, hr, hrun, hended, hW, hsame⟩ := X1.leave (v := some (.ref s_ACTIVE)) (fun h => by rw [Bd.returns] at h; cases h)
  refine ⟨_, _, pre0 _ ?_, hrun, hended, _, _, rfl, ?_, ⟨_, rfl⟩, hW, hsame.mono (by decide) (by decide)⟩
  · show Steps _ _ _ (s₁.setTop (mkF m 0 #[vI 2] [])) _
    refine XS.iloadN X0.here hx rfl (hb hby d1_0) rfl ?_
    show Steps _ _ _ (s₁.setTop (mkF m 1 #[vI 2] [iI 2])) _
    refine XS.ifYes X0.here hx rfl (pc0 := 1) (pc' := 8) rfl (hb hby d1_1) rfl ((if0 _ _).trans (feq (by decide : ¬ ((2 : Int32) = (0 : Int32)))).2) (by decide) (by decide) ?_
    show Steps _ _ _ (s₁.setTop (mkF m 8 #[vI 2] [])) _
    refine XS.iloadN X0.here hx rfl (hb hby d1_8) rfl ?_
    show Steps _ _ _ (s₁.setTop (mkF m 9 #[vI 2] [iI 2])) _
    refine XS.iconst X0.here hx rfl (hb hby d1_9) ?_
    show Steps _ _ _ (s₁.setTop (mkF m 10 #[vI 2] [iI 1, iI 2])) _
    refine XS.icmpYes X0.here hx rfl (pc0 := 10) (pc' := 17) rfl (hb hby d1_10) rfl (feq (by decide : ¬ ((2 : Int32) = (1 : Int32)))).2 (by decide) (by decide) ?_
    show Steps _ _ _ (s₁.setTop (mkF m 17 #[vI 2] [])) _
    refine XS.iloadN X0.here hx rfl (hb hby d1_17) rfl ?_
    show Steps _ _ _ (s₁.setTop (mkF m 18 #[vI 2] [iI 2])) _
    refine XS.iconst X0.here hx rfl (hb hby d1_18) ?_
    show Steps _ _ _ (s₁.setTop (mkF m 19 #[vI 2] [iI 2, iI 2])) _
    refine XS.icmpNo X0.here hx rfl (hb hby d1_19) rfl (teq (by decide : (2 : Int32) = (2 : Int32))).2 ?_
    show Steps _ _ _ (s₁.setTop (mkF m 22 #[vI 2] [])) _
    refine st1 _ ?_
    show Steps _ _ _ (T1.setTop (mkF m 25 #[vI 2] [iR s_ACTIVE])) _
    jvm_step X1.here [X1.here.top, hx, (hb hby d1_25), X1.method', Bd.returns, Value.isRef, FieldType.isReference]
    first | (intro acts; rw [hr _ acts rfl rfl rfl]) | rw [hr _ _ rfl rfl rfl]
    exact Steps.refl _
  · show Q1_2 Z s_CREATED s_BLOCKED s_OTP_USED s_REMOVED s_ACTIVE h0 _ T1.heap _
    rw [e1]
    exact ⟨rfl, rfl, rfl⟩
theorem d1_26 : decode method_3_code 26 = .ok (.iload_n 0, 1) := by decide +kernel
theorem d1_27 : decode method_3_code 27 = .ok (.iconst 3, 1) := by decide +kernel
theorem d1_28 : decode method_3_code 28 = .ok (.if_icmp .ne 7, 3) := by decide +kernel
theorem d1_31 : decode method_3_code 31 = .ok (.getstatic 30, 3) := by decide +kernel
theorem d1_34 : decode method_3_code 34 = .ok (.areturn, 1) := by decide +kernel
theorem ef_1_3 (m : MethodId)  : entryFrame m #[(.int (3 : Int32))] 1 = mkF m 0 #[.val (.int (3 : Int32))] [] := by first | (simp [entryFrame, mkF, argsToLocals, Value.category]; done) | rfl
def Q1_3 (Z : State) (s_CREATED : Addr) (s_BLOCKED : Addr) (s_OTP_USED : Addr) (s_REMOVED : Addr) (s_ACTIVE : Addr) (h0 : Heap) (v : Option Value) (h : Heap) (L : List Loc) : Prop := v = some (.ref s_BLOCKED) ∧ L = [] ∧ h = h0
set_option maxRecDepth 65536 in
set_option maxHeartbeats 40000000 in
theorem rm1_3 (l : Launch) (Z : State) (a0 : Array Value) (hw : ∀ d ∈ tables_1, d.before a0 Z = true) (ws : List Jvm.Cond) (s_CREATED : Addr) (s_BLOCKED : Addr) (s_OTP_USED : Addr) (s_REMOVED : Addr) (s_ACTIVE : Addr) (h0 : Heap) (S_CREATED : Sta Z h0 "com/example/threefold/threefold/protocol/ActivationStatus" "CREATED" "Lcom/example/threefold/threefold/protocol/ActivationStatus;" (.ref s_CREATED)) (E_CREATED : Exa Z h0 s_CREATED "com/example/threefold/threefold/protocol/ActivationStatus") (S_BLOCKED : Sta Z h0 "com/example/threefold/threefold/protocol/ActivationStatus" "BLOCKED" "Lcom/example/threefold/threefold/protocol/ActivationStatus;" (.ref s_BLOCKED)) (E_BLOCKED : Exa Z h0 s_BLOCKED "com/example/threefold/threefold/protocol/ActivationStatus") (F_ordinal_BLOCKED : Fld Z h0 s_BLOCKED "java/lang/Enum" "ordinal" "I" (.int (3 : Int32))) (F_ordinal_CREATED : Fld Z h0 s_CREATED "java/lang/Enum" "ordinal" "I" (.int (0 : Int32))) (S_OTP_USED : Sta Z h0 "com/example/threefold/threefold/protocol/ActivationStatus" "OTP_USED" "Lcom/example/threefold/threefold/protocol/ActivationStatus;" (.ref s_OTP_USED)) (E_OTP_USED : Exa Z h0 s_OTP_USED "com/example/threefold/threefold/protocol/ActivationStatus") (F_ordinal_OTP_USED : Fld Z h0 s_OTP_USED "java/lang/Enum" "ordinal" "I" (.int (1 : Int32))) (S_REMOVED : Sta Z h0 "com/example/threefold/threefold/protocol/ActivationStatus" "REMOVED" "Lcom/example/threefold/threefold/protocol/ActivationStatus;" (.ref s_REMOVED)) (E_REMOVED : Exa Z h0 s_REMOVED "com/example/threefold/threefold/protocol/ActivationStatus") (F_ordinal_REMOVED : Fld Z h0 s_REMOVED "java/lang/Enum" "ordinal" "I" (.int (4 : Int32))) (S_ACTIVE : Sta Z h0 "com/example/threefold/threefold/protocol/ActivationStatus" "ACTIVE" "Lcom/example/threefold/threefold/protocol/ActivationStatus;" (.ref s_ACTIVE)) (E_ACTIVE : Exa Z h0 s_ACTIVE "com/example/threefold/threefold/protocol/ActivationStatus") (F_ordinal_ACTIVE : Fld Z h0 s_ACTIVE "java/lang/Enum" "ordinal" "I" (.int (2 : Int32))) :
    MetFree l (⟨"com/example/threefold/threefold/protocol/ActivationStatusIsPendingPinLaw", "pick", "(I)Lcom/example/threefold/threefold/protocol/ActivationStatus;"⟩ : MethodName) (head1 (Jvm.Cond.code (⟨"com/example/threefold/threefold/protocol/ActivationStatusIsPendingPinLaw", "pick", "(I)Lcom/example/threefold/threefold/protocol/ActivationStatus;"⟩ : MethodName) method_3_code 1 (some (.object "com/example/threefold/threefold/protocol/ActivationStatus")) :: ws) ({ frames := 0, cells := 0, slots := 0, locals := 0 } : Room)) (fun a U => a = #[(.int (3 : Int32))] ∧ Z.Warmed39 U.vm ∧ U.heap = h0) (fun _ _ _ _ _ => True) (fun _ U o U' => ∃ v L, o = .returned v ∧ Q1_3 Z s_CREATED s_BLOCKED s_OTP_USED s_REMOVED s_ACTIVE h0 v U'.heap L ∧ FrameEnd U o U' L ({ frames := 0, cells := 0, slots := 0, locals := 0 } : Room).cells ({ frames := 0, cells := 0, slots := 0, locals := 0 } : Room).slots) := by
  refine MetFree.of_bodySF (plainFor_of_name pn_0) hisR ?_
  intro p e s m args below meth c s₁ Bd hml0 hP hK
  obtain ⟨rfl, hZ, hh⟩ := hP
  have hx := Bd.exec
  have hby := Bd.bytes
  have hml : c.maxLocals = 1 := hml0
  have hown : s.vm.findClass "com/example/threefold/threefold/protocol/ActivationStatusIsPendingPinLaw" = some m.cls := findClass_of_methodNamed Bd.named
  have hnm := (name_of_methodNamed Bd.named Bd.method).1
  have X0 : Stand p l e ({ frames := 0, cells := 0, slots := 0, locals := 0 } : Room) s m #[(.int (3 : Int32))] below meth c s₁ [] 0 0 := Stand.of_body Bd
  have e0 : s₁.heap = h0 := by rw [← hh, Bd.state]; rfl
  have pre0 : ∀ t, Steps p.tables e below (s₁.setTop (mkF m 0 #[.val (.int (3 : Int32))] [])) t → Steps p.tables e below (s₁.setTop (entryFrame m #[(.int (3 : Int32))] 1)) t := fun t k => castTop (ef_1_3 m ) k
  obtain ⟨T1, X1, e1, st1⟩ := getS2 X0 hx hZ hown (host := "") (Or.inl (hw _ (List.mem_of_getElem? (i := 14) rfl))) Via.refl e0 S_BLOCKED (g := (mkF m 31 #[vI 3] [])) rfl (hb hby d1_31)
  obtain ⟨fs, hr, hrun, hended, hW, hsame⟩ := X1.leave (v := some (.ref s_BLOCKED)) (fun h => by rw [Bd.returns] at h; cases h)
  refine ⟨_, _, pre0 _ ?_, hrun, hended, _, _, rfl, ?_, ⟨_, rfl⟩, hW, hsame.mono (by decide) (by decide)⟩
  · show Steps _ _ _ (s₁.setTop (mkF m 0 #[vI 3] [])) _
    refine XS.iloadN X0.here hx rfl (hb hby d1_0) rfl ?_
    show Steps _ _ _ (s₁.setTop (mkF m 1 #[vI 3] [iI 3])) _
    refine XS.ifYes X0.here hx rfl (pc0 := 1) (pc' := 8) rfl (hb hby d1_1) rfl ((if0 _ _).trans (feq (by decide : ¬ ((3 : Int32) = (0 : Int32)))).2) (by decide) (by decide) ?_
    show Steps _ _ _ (s₁.setTop (mkF m 8 #[vI 3] [])) _
    refine XS.iloadN X0.here hx rfl (hb hby d1_8) rfl ?_
    show Steps _ _ _ (s₁.setTop (mkF m 9 #[vI 3] [iI 3])) _
    refine XS.iconst X0.here hx rfl (hb hby d1_9) ?_
    show Steps _ _ _ (s₁.setTop (mkF m 10 #[vI 3] [iI 1, iI 3])) _
    refine XS.icmpYes X0.here hx rfl (pc0 := 10) (pc' := 17) rfl (hb hby d1_10) rfl (feq (by decide : ¬ ((3 : Int32) = (1 : Int32)))).2 (by decide) (by decide) ?_
    show Steps _ _ _ (s₁.setTop (mkF m 17 #[vI 3] [])) _
    refine XS.iloadN X0.here hx rfl (hb hby d1_17) rfl ?_
    show Steps _ _ _ (s₁.setTop (mkF m 18 #[vI 3] [iI 3])) _
    refine XS.iconst X0.here hx rfl (hb hby d1_18) ?_
    show Steps _ _ _ (s₁.setTop (mkF m 19 #[vI 3] [iI 2, iI 3])) _
    refine XS.icmpYes X0.here hx rfl (pc0 := 19) (pc' := 26) rfl (hb hby d1_19) rfl (feq (by decide : ¬ ((3 : Int32) = (2 : Int32)))).2 (by decide) (by decide) ?_
    show Steps _ _ _ (s₁.setTop (mkF m 26 #[vI 3] [])) _
    refine XS.iloadN X0.here hx rfl (hb hby d1_26) rfl ?_
    show Steps _ _ _ (s₁.setTop (mkF m 27 #[vI 3] [iI 3])) _
    refine XS.iconst X0.here hx rfl (hb hby d1_27) ?_
    show Steps _ _ _ (s₁.setTop (mkF m 28 #[vI 3] [iI 3, iI 3])) _
    refine XS.icmpNo X0.here hx rfl (hb hby d1_28) rfl (teq (by decide : (3 : Int32) = (3 : Int32))).2 ?_
    show Steps _ _ _ (s₁.setTop (mkF m 31 #[vI 3] [])) _
    refine st1 _ ?_
    show Steps _ _ _ (T1.setTop (mkF m 34 #[vI 3] [iR s_BLOCKED])) _
    jvm_step X1.here [X1.here.top, hx, (hb hby d1_34), X1.method', Bd.returns, Value.isRef, FieldType.isReference]
    first | (intro acts; rw [hr _ acts rfl rfl rfl]) | rw [hr _ _ rfl rfl rfl]
    exact Steps.refl _
  · show Q1_3 Z s_CREATED s_BLOCKED s_OTP_USED s_REMOVED s_ACTIVE h0 _ T1.heap _
    rw [e1]
    exact ⟨rfl, rfl, rfl⟩
theorem d1_35 : decode method_3_code 35 = .ok (.getstatic 33, 3) := by decide +kernel
theorem d1_38 : decode method_3_code 38 = .ok (.areturn, 1) := by decide +kernel
theorem ef_1_4 (m : MethodId)  : entryFrame m #[(.int (4 : Int32))] 1 = mkF m 0 #[.val (.int (4 : Int32))] [] := by first | (simp [entryFrame, mkF, argsToLocals, Value.category]; done) | rfl
def Q1_4 (Z : State) (s_CREATED : Addr) (s_BLOCKED : Addr) (s_OTP_USED : Addr) (s_REMOVED : Addr) (s_ACTIVE : Addr) (h0 : Heap) (v : Option Value) (h : Heap) (L : List Loc) : Prop := v = some (.ref s_REMOVED) ∧ L = [] ∧ h = h0
set_option maxRecDepth 65536 in
set_option maxHeartbeats 40000000 in
theorem rm1_4 (l : Launch) (Z : State) (a0 : Array Value) (hw : ∀ d ∈ tables_1, d.before a0 Z = true) (ws : List Jvm.Cond) (s_CREATED : Addr) (s_BLOCKED : Addr) (s_OTP_USED : Addr) (s_REMOVED : Addr) (s_ACTIVE : Addr) (h0 : Heap) (S_CREATED : Sta Z h0 "com/example/threefold/threefold/protocol/ActivationStatus" "CREATED" "Lcom/example/threefold/threefold/protocol/ActivationStatus;" (.ref s_CREATED)) (E_CREATED : Exa Z h0 s_CREATED "com/example/threefold/threefold/protocol/ActivationStatus") (S_BLOCKED : Sta Z h0 "com/example/threefold/threefold/protocol/ActivationStatus" "BLOCKED" "Lcom/example/threefold/threefold/protocol/ActivationStatus;" (.ref s_BLOCKED)) (E_BLOCKED : Exa Z h0 s_BLOCKED "com/example/threefold/threefold/protocol/ActivationStatus") (F_ordinal_BLOCKED : Fld Z h0 s_BLOCKED "java/lang/Enum" "ordinal" "I" (.int (3 : Int32))) (F_ordinal_CREATED : Fld Z h0 s_CREATED "java/lang/Enum" "ordinal" "I" (.int (0 : Int32))) (S_OTP_USED : Sta Z h0 "com/example/threefold/threefold/protocol/ActivationStatus" "OTP_USED" "Lcom/example/threefold/threefold/protocol/ActivationStatus;" (.ref s_OTP_USED)) (E_OTP_USED : Exa Z h0 s_OTP_USED "com/example/threefold/threefold/protocol/ActivationStatus") (F_ordinal_OTP_USED : Fld Z h0 s_OTP_USED "java/lang/Enum" "ordinal" "I" (.int (1 : Int32))) (S_REMOVED : Sta Z h0 "com/example/threefold/threefold/protocol/ActivationStatus" "REMOVED" "Lcom/example/threefold/threefold/protocol/ActivationStatus;" (.ref s_REMOVED)) (E_REMOVED : Exa Z h0 s_REMOVED "com/example/threefold/threefold/protocol/ActivationStatus") (F_ordinal_REMOVED : Fld Z h0 s_REMOVED "java/lang/Enum" "ordinal" "I" (.int (4 : Int32))) (S_ACTIVE : Sta Z h0 "com/example/threefold/threefold/protocol/ActivationStatus" "ACTIVE" "Lcom/example/threefold/threefold/protocol/ActivationStatus;" (.ref s_ACTIVE)) (E_ACTIVE : Exa Z h0 s_ACTIVE "com/example/threefold/threefold/protocol/ActivationStatus") (F_ordinal_ACTIVE : Fld Z h0 s_ACTIVE "java/lang/Enum" "ordinal" "I" (.int (2 : Int32))) :
    MetFree l (⟨"com/example/threefold/threefold/protocol/ActivationStatusIsPendingPinLaw", "pick", "(I)Lcom/example/threefold/threefold/protocol/ActivationStatus;"⟩ : MethodName) (head1 (Jvm.Cond.code (⟨"com/example/threefold/threefold/protocol/ActivationStatusIsPendingPinLaw", "pick", "(I)Lcom/example/threefold/threefold/protocol/ActivationStatus;"⟩ : MethodName) method_3_code 1 (some (.object "com/example/threefold/threefold/protocol/ActivationStatus")) :: ws) ({ frames := 0, cells := 0, slots := 0, locals := 0 } : Room)) (fun a U => a = #[(.int (4 : Int32))] ∧ Z.Warmed39 U.vm ∧ U.heap = h0) (fun _ _ _ _ _ => True) (fun _ U o U' => ∃ v L, o = .returned v ∧ Q1_4 Z s_CREATED s_BLOCKED s_OTP_USED s_REMOVED s_ACTIVE h0 v U'.heap L ∧ FrameEnd U o U' L ({ frames := 0, cells := 0, slots := 0, locals := 0 } : Room).cells ({ frames := 0, cells := 0, slots := 0, locals := 0 } : Room).slots) := by
  refine MetFree.of_bodySF (plainFor_of_name pn_0) hisR ?_
  intro p e s m args below meth c s₁ Bd hml0 hP hK
  obtain ⟨rfl, hZ, hh⟩ := hP
  have hx := Bd.exec
  have hby := Bd.bytes
  have hml : c.maxLocals = 1 := hml0
  have hown : s.vm.findClass "com/example/threefold/threefold/protocol/ActivationStatusIsPendingPinLaw" = some m.cls := findClass_of_methodNamed Bd.named
  have hnm := (name_of_methodNamed Bd.named Bd.method).1
  have X0 : Stand p l e ({ frames := 0, cells := 0, slots := 0, locals := 0 } : Room) s m #[(.int (4 : Int32))] below meth c s₁ [] 0 0 := Stand.of_body Bd
  have e0 : s₁.heap = h0 := by rw [← hh, Bd.state]; rfl
  have pre0 : ∀ t, Steps p.tables e below (s₁.setTop (mkF m 0 #[.val (.int (4 : Int32))] [])) t → Steps p.tables e below (s₁.setTop (entryFrame m #[(.int (4 : Int32))] 1)) t := fun t k => castTop (ef_1_4 m ) k
  obtain ⟨T1, X1, e1, st1⟩ := getS2 X0 hx hZ hown (host := "") (Or.inl (hw _ (List.mem_of_getElem? (i := 19) rfl))) Via.refl e0 S_REMOVED (g := (mkF m 35 #[vI 4] [])) rfl (hb hby d1_35)
  obtain ⟨fs, hr, hrun, hended, hW, hsame⟩ := X1.leave (v := some (.ref s_REMOVED)) (fun h => by rw [Bd.returns] at h; cases h)
  refine ⟨_, _, pre0 _ ?_, hrun, hended, _, _, rfl, ?_, ⟨_, rfl⟩, hW, hsame.mono (by decide) (by decide)⟩
  · show Steps _ _ _ (s₁.setTop (mkF m 0 #[vI 4] [])) _
    refine XS.iloadN X0.here hx rfl (hb hby d1_0) rfl ?_
    show Steps _ _ _ (s₁.setTop (mkF m 1 #[vI 4] [iI 4])) _
    refine XS.ifYes X0.here hx rfl (pc0 := 1) (pc' := 8) rfl (hb hby d1_1) rfl ((if0 _ _).trans (feq (by decide : ¬ ((4 : Int32) = (0 : Int32)))).2) (by decide) (by decide) ?_
    show Steps _ _ _ (s₁.setTop (mkF m 8 #[vI 4] [])) _
    refine XS.iloadN X0.here hx rfl (hb hby d1_8) rfl ?_
    show Steps _ _ _ (s₁.setTop (mkF m 9 #[vI 4] [iI 4])) _
    refine XS.iconst X0.here hx rfl (hb hby d1_9) ?_
    show Steps _ _ _ (s₁.setTop (mkF m 10 #[vI 4] [iI 1, iI 4])) _
    refine XS.icmpYes X0.here hx rfl (pc0 := 10) (pc' := 17) rfl (hb hby d1_10) rfl (feq (by decide : ¬ ((4 : Int32) = (1 : Int32)))).2 (by decide) (by decide) ?_
    show Steps _ _ _ (s₁.setTop (mkF m 17 #[vI 4] [])) _
    refine XS.iloadN X0.here hx rfl (hb hby d1_17) rfl ?_
    show Steps _ _ _ (s₁.setTop (mkF m 18 #[vI 4] [iI 4])) _
    refine XS.iconst X0.here hx rfl (hb hby d1_18) ?_
    show Steps _ _ _ (s₁.setTop (mkF m 19 #[vI 4] [iI 2, iI 4])) _
    refine XS.icmpYes X0.here hx rfl (pc0 := 19) (pc' := 26) rfl (hb hby d1_19) rfl (feq (by decide : ¬ ((4 : Int32) = (2 : Int32)))).2 (by decide) (by decide) ?_
    show Steps _ _ _ (s₁.setTop (mkF m 26 #[vI 4] [])) _
    refine XS.iloadN X0.here hx rfl (hb hby d1_26) rfl ?_
    show Steps _ _ _ (s₁.setTop (mkF m 27 #[vI 4] [iI 4])) _
    refine XS.iconst X0.here hx rfl (hb hby d1_27) ?_
    show Steps _ _ _ (s₁.setTop (mkF m 28 #[vI 4] [iI 3, iI 4])) _
    refine XS.icmpYes X0.here hx rfl (pc0 := 28) (pc' := 35) rfl (hb hby d1_28) rfl (feq (by decide : ¬ ((4 : Int32) = (3 : Int32)))).2 (by decide) (by decide) ?_
    show Steps _ _ _ (s₁.setTop (mkF m 35 #[vI 4] [])) _
    refine st1 _ ?_
    show Steps _ _ _ (T1.setTop (mkF m 38 #[vI 4] [iR s_REMOVED])) _
    jvm_step X1.here [X1.here.top, hx, (hb hby d1_38), X1.method', Bd.returns, Value.isRef, FieldType.isReference]
    first | (intro acts; rw [hr _ acts rfl rfl rfl]) | rw [hr _ _ rfl rfl rfl]
    exact Steps.refl _
  · show Q1_4 Z s_CREATED s_BLOCKED s_OTP_USED s_REMOVED s_ACTIVE h0 _ T1.heap _
    rw [e1]
    exact ⟨rfl, rfl, rfl⟩
theorem d2_0 : decode prog_7_method_4_code 0 = .ok (.aload_n 0, 1) := by decide +kernel
theorem d2_1 : decode prog_7_method_4_code 1 = .ok (.getstatic 3, 3) := by decide +kernel
theorem d2_4 : decode prog_7_method_4_code 4 = .ok (.if_acmp .eq 10, 3) := by decide +kernel
theorem d2_14 : decode prog_7_method_4_code 14 = .ok (.iconst 1, 1) := by decide +kernel
theorem d2_15 : decode prog_7_method_4_code 15 = .ok (.goto 4, 3) := by decide +kernel
theorem d2_19 : decode prog_7_method_4_code 19 = .ok (.ireturn, 1) := by decide +kernel
theorem pn_1 : plainName "com/example/threefold/threefold/protocol/ActivationStatus" = true := by first | (simp [plainName, overriddenIn]; done) | decide +kernel
theorem ef_2_0 (m : MethodId) (x0 : Addr) : entryFrame m #[(.ref x0)] 1 = mkF m 0 #[.val (.ref x0)] [] := by first | (simp [entryFrame, mkF, argsToLocals, Value.category]; done) | rfl
def Q2_0 (Z : State) (s_CREATED : Addr) (s_BLOCKED : Addr) (s_OTP_USED : Addr) (s_REMOVED : Addr) (s_ACTIVE : Addr) (h0 : Heap) (v : Option Value) (h : Heap) (L : List Loc) : Prop := v = some (.int (1 : Int32)) ∧ L = [] ∧ h = h0
set_option maxRecDepth 65536 in
set_option maxHeartbeats 40000000 in
theorem rm2_0 (l : Launch) (Z : State) (a0 : Array Value) (hw : ∀ d ∈ tables_1, d.before a0 Z = true) (ws : List Jvm.Cond) (s_CREATED : Addr) (s_BLOCKED : Addr) (s_OTP_USED : Addr) (s_REMOVED : Addr) (s_ACTIVE : Addr) (h0 : Heap) (S_CREATED : Sta Z h0 "com/example/threefold/threefold/protocol/ActivationStatus" "CREATED" "Lcom/example/threefold/threefold/protocol/ActivationStatus;" (.ref s_CREATED)) (E_CREATED : Exa Z h0 s_CREATED "com/example/threefold/threefold/protocol/ActivationStatus") (S_BLOCKED : Sta Z h0 "com/example/threefold/threefold/protocol/ActivationStatus" "BLOCKED" "Lcom/example/threefold/threefold/protocol/ActivationStatus;" (.ref s_BLOCKED)) (E_BLOCKED : Exa Z h0 s_BLOCKED "com/example/threefold/threefold/protocol/ActivationStatus") (F_ordinal_BLOCKED : Fld Z h0 s_BLOCKED "java/lang/Enum" "ordinal" "I" (.int (3 : Int32))) (F_ordinal_CREATED : Fld Z h0 s_CREATED "java/lang/Enum" "ordinal" "I" (.int (0 : Int32))) (S_OTP_USED : Sta Z h0 "com/example/threefold/threefold/protocol/ActivationStatus" "OTP_USED" "Lcom/example/threefold/threefold/protocol/ActivationStatus;" (.ref s_OTP_USED)) (E_OTP_USED : Exa Z h0 s_OTP_USED "com/example/threefold/threefold/protocol/ActivationStatus") (F_ordinal_OTP_USED : Fld Z h0 s_OTP_USED "java/lang/Enum" "ordinal" "I" (.int (1 : Int32))) (S_REMOVED : Sta Z h0 "com/example/threefold/threefold/protocol/ActivationStatus" "REMOVED" "Lcom/example/threefold/threefold/protocol/ActivationStatus;" (.ref s_REMOVED)) (E_REMOVED : Exa Z h0 s_REMOVED "com/example/threefold/threefold/protocol/ActivationStatus") (F_ordinal_REMOVED : Fld Z h0 s_REMOVED "java/lang/Enum" "ordinal" "I" (.int (4 : Int32))) (S_ACTIVE : Sta Z h0 "com/example/threefold/threefold/protocol/ActivationStatus" "ACTIVE" "Lcom/example/threefold/threefold/protocol/ActivationStatus;" (.ref s_ACTIVE)) (E_ACTIVE : Exa Z h0 s_ACTIVE "com/example/threefold/threefold/protocol/ActivationStatus") (F_ordinal_ACTIVE : Fld Z h0 s_ACTIVE "java/lang/Enum" "ordinal" "I" (.int (2 : Int32))) :
    MetFree l (⟨"com/example/threefold/threefold/protocol/ActivationStatus", "isPending", "()Z"⟩ : MethodName) (head1 (Jvm.Cond.code (⟨"com/example/threefold/threefold/protocol/ActivationStatus", "isPending", "()Z"⟩ : MethodName) prog_7_method_4_code 1 (some .boolean) :: ws) ({ frames := 0, cells := 0, slots := 0, locals := 0 } : Room)) (fun a U => a = #[(.ref s_CREATED)] ∧ Z.Warmed39 U.vm ∧ U.heap = h0) (fun _ _ _ _ _ => True) (fun _ U o U' => ∃ v L, o = .returned v ∧ Q2_0 Z s_CREATED s_BLOCKED s_OTP_USED s_REMOVED s_ACTIVE h0 v U'.heap L ∧ FrameEnd U o U' L ({ frames := 0, cells := 0, slots := 0, locals := 0 } : Room).cells ({ frames := 0, cells := 0, slots := 0, locals := 0 } : Room).slots) := by
  refine MetFree.of_bodySF (plainFor_of_name pn_1) hisR ?_
  intro p e s m args below meth c s₁ Bd hml0 hP hK
  obtain ⟨rfl, hZ, hh⟩ := hP
  have hx := Bd.exec
  have hby := Bd.bytes
  have hml : c.maxLocals = 1 := hml0
  have hown : s.vm.findClass "com/example/threefold/threefold/protocol/ActivationStatus" = some m.cls := findClass_of_methodNamed Bd.named
  have hnm := (name_of_methodNamed Bd.named Bd.method).1
  have X0 : Stand p l e ({ frames := 0, cells := 0, slots := 0, locals := 0 } : Room) s m #[(.ref s_CREATED)] below meth c s₁ [] 0 0 := Stand.of_body Bd
  have e0 : s₁.heap = h0 := by rw [← hh, Bd.state]; rfl
  have pre0 : ∀ t, Steps p.tables e below (s₁.setTop (mkF m 0 #[.val (.ref s_CREATED)] [])) t → Steps p.tables e below (s₁.setTop (entryFrame m #[(.ref s_CREATED)] 1)) t := fun t k => castTop (ef_2_0 m s_CREATED) k
  have ne_BLOCKED_CREATED : s_BLOCKED ≠ s_CREATED := F_ordinal_BLOCKED.ne F_ordinal_CREATED (by simp)
  have ne_BLOCKED_OTP_USED : s_BLOCKED ≠ s_OTP_USED := F_ordinal_BLOCKED.ne F_ordinal_OTP_USED (by simp)
  have ne_CREATED_OTP_USED : s_CREATED ≠ s_OTP_USED := F_ordinal_CREATED.ne F_ordinal_OTP_USED (by simp)
  have ne_CREATED_REMOVED : s_CREATED ≠ s_REMOVED := F_ordinal_CREATED.ne F_ordinal_REMOVED (by simp)
  have ne_CREATED_ACTIVE : s_CREATED ≠ s_ACTIVE := F_ordinal_CREATED.ne F_ordinal_ACTIVE (by simp)
  have ne_OTP_USED_REMOVED : s_OTP_USED ≠ s_REMOVED := F_ordinal_OTP_USED.ne F_ordinal_REMOVED (by simp)
  have ne_OTP_USED_ACTIVE : s_OTP_USED ≠ s_ACTIVE := F_ordinal_OTP_USED.ne F_ordinal_ACTIVE (by simp)
  obtain ⟨T1, X1, e1, st1⟩ := getS2 X0 hx hZ hown (host := "") (Or.inl (hw _ (List.mem_of_getElem? (i := 13) rfl))) Via.refl e0 S_CREATED (g := (mkF m 1 #[vR s_CREATED] [iR s_CREATED])) rfl (hb hby d2_1)
  obtain ⟨fs, hr, hrun, hended, hW, hsame⟩ := X1.leave (v := some (.int (1 : Int32))) (fun h => by rw [Bd.returns] at h; cases h)
  refine ⟨_, _, pre0 _ ?_, hrun, hended, _, _, rfl, ?_, ⟨_, rfl⟩, hW, hsame.mono (by decide) (by decide)⟩
  · show Steps _ _ _ (s₁.setTop (mkF m 0 #[vR s_CREATED] [])) _
    refine XS.aloadN X0.here hx rfl (hb hby d2_0) rfl rfl ?_
    show Steps _ _ _ (s₁.setTop (mkF m 1 #[vR s_CREATED] [iR s_CREATED])) _
    refine st1 _ ?_
    show Steps _ _ _ (T1.setTop (mkF m 4 #[vR s_CREATED] [iR s_CREATED, iR s_CREATED])) _
    refine Jvm.RoadKit.acmp (g := (mkF m 4 #[vR s_CREATED] [iR s_CREATED, iR s_CREATED])) X1 hx rfl rfl rfl (pc0 := 4) (pc' := 14) (same := true) rfl (hb hby d2_4) rfl (decide_eq_true rfl) (by decide) (by decide) ?_
    show Steps _ _ _ (T1.setTop (mkF m 14 #[vR s_CREATED] [])) _
    refine XS.iconst X1.here hx rfl (hb hby d2_14) ?_
    show Steps _ _ _ (T1.setTop (mkF m 15 #[vR s_CREATED] [iI 1])) _
    refine XS.goto X1.here hx rfl (pc0 := 15) (pc' := 19) rfl (hb hby d2_15) (by decide) (by decide) ?_
    show Steps _ _ _ (T1.setTop (mkF m 19 #[vR s_CREATED] [iI 1])) _
    exact retN X1 hx (t := .boolean) Bd.returns (by simp) (hb hby d2_19) hr
  · show Q2_0 Z s_CREATED s_BLOCKED s_OTP_USED s_REMOVED s_ACTIVE h0 _ T1.heap _
    rw [e1]
    exact ⟨rfl, rfl, rfl⟩
theorem d2_7 : decode prog_7_method_4_code 7 = .ok (.aload_n 0, 1) := by decide +kernel
theorem d2_8 : decode prog_7_method_4_code 8 = .ok (.getstatic 7, 3) := by decide +kernel
theorem d2_11 : decode prog_7_method_4_code 11 = .ok (.if_acmp .ne 7, 3) := by decide +kernel
theorem ef_2_1 (m : MethodId) (x0 : Addr) : entryFrame m #[(.ref x0)] 1 = mkF m 0 #[.val (.ref x0)] [] := by first | (simp [entryFrame, mkF, argsToLocals, Value.category]; done) | rfl
def Q2_1 (Z : State) (s_CREATED : Addr) (s_BLOCKED : Addr) (s_OTP_USED : Addr) (s_REMOVED : Addr) (s_ACTIVE : Addr) (h0 : Heap) (v : Option Value) (h : Heap) (L : List Loc) : Prop := v = some (.int (1 : Int32)) ∧ L = [] ∧ h = h0
set_option maxRecDepth 65536 in
set_option maxHeartbeats 40000000 in
theorem rm2_1 (l : Launch) (Z : State) (a0 : Array Value) (hw : ∀ d ∈ tables_1, d.before a0 Z = true) (ws : List Jvm.Cond) (s_CREATED : Addr) (s_BLOCKED : Addr) (s_OTP_USED : Addr) (s_REMOVED : Addr) (s_ACTIVE : Addr) (h0 : Heap) (S_CREATED : Sta Z h0 "com/example/threefold/threefold/protocol/ActivationStatus" "CREATED" "Lcom/example/threefold/threefold/protocol/ActivationStatus;" (.ref s_CREATED)) (E_CREATED : Exa Z h0 s_CREATED "com/example/threefold/threefold/protocol/ActivationStatus") (S_BLOCKED : Sta Z h0 "com/example/threefold/threefold/protocol/ActivationStatus" "BLOCKED" "Lcom/example/threefold/threefold/protocol/ActivationStatus;" (.ref s_BLOCKED)) (E_BLOCKED : Exa Z h0 s_BLOCKED "com/example/threefold/threefold/protocol/ActivationStatus") (F_ordinal_BLOCKED : Fld Z h0 s_BLOCKED "java/lang/Enum" "ordinal" "I" (.int (3 : Int32))) (F_ordinal_CREATED : Fld Z h0 s_CREATED "java/lang/Enum" "ordinal" "I" (.int (0 : Int32))) (S_OTP_USED : Sta Z h0 "com/example/threefold/threefold/protocol/ActivationStatus" "OTP_USED" "Lcom/example/threefold/threefold/protocol/ActivationStatus;" (.ref s_OTP_USED)) (E_OTP_USED : Exa Z h0 s_OTP_USED "com/example/threefold/threefold/protocol/ActivationStatus") (F_ordinal_OTP_USED : Fld Z h0 s_OTP_USED "java/lang/Enum" "ordinal" "I" (.int (1 : Int32))) (S_REMOVED : Sta Z h0 "com/example/threefold/threefold/protocol/ActivationStatus" "REMOVED" "Lcom/example/threefold/threefold/protocol/ActivationStatus;" (.ref s_REMOVED)) (E_REMOVED : Exa Z h0 s_REMOVED "com/example/threefold/threefold/protocol/ActivationStatus") (F_ordinal_REMOVED : Fld Z h0 s_REMOVED "java/lang/Enum" "ordinal" "I" (.int (4 : Int32))) (S_ACTIVE : Sta Z h0 "com/example/threefold/threefold/protocol/ActivationStatus" "ACTIVE" "Lcom/example/threefold/threefold/protocol/ActivationStatus;" (.ref s_ACTIVE)) (E_ACTIVE : Exa Z h0 s_ACTIVE "com/example/threefold/threefold/protocol/ActivationStatus") (F_ordinal_ACTIVE : Fld Z h0 s_ACTIVE "java/lang/Enum" "ordinal" "I" (.int (2 : Int32))) :
    MetFree l (⟨"com/example/threefold/threefold/protocol/ActivationStatus", "isPending", "()Z"⟩ : MethodName) (head1 (Jvm.Cond.code (⟨"com/example/threefold/threefold/protocol/ActivationStatus", "isPending", "()Z"⟩ : MethodName) prog_7_method_4_code 1 (some .boolean) :: ws) ({ frames := 0, cells := 0, slots := 0, locals := 0 } : Room)) (fun a U => a = #[(.ref s_OTP_USED)] ∧ Z.Warmed39 U.vm ∧ U.heap = h0) (fun _ _ _ _ _ => True) (fun _ U o U' => ∃ v L, o = .returned v ∧ Q2_1 Z s_CREATED s_BLOCKED s_OTP_USED s_REMOVED s_ACTIVE h0 v U'.heap L ∧ FrameEnd U o U' L ({ frames := 0, cells := 0, slots := 0, locals := 0 } : Room).cells ({ frames := 0, cells := 0, slots := 0, locals := 0 } : Room).slots) := by
  refine MetFree.of_bodySF (plainFor_of_name pn_1) hisR ?_
  intro p e s m args below meth c s₁ Bd hml0 hP hK
  obtain ⟨rfl, hZ, hh⟩ := hP
  have hx := Bd.exec
  have hby := Bd.bytes
  have hml : c.maxLocals = 1 := hml0
  have hown : s.vm.findClass "com/example/threefold/threefold/protocol/ActivationStatus" = some m.cls := findClass_of_methodNamed Bd.named
  have hnm := (name_of_methodNamed Bd.named Bd.method).1
  have X0 : Stand p l e ({ frames := 0, cells := 0, slots := 0, locals := 0 } : Room) s m #[(.ref s_OTP_USED)] below meth c s₁ [] 0 0 := Stand.of_body Bd
  have e0 : s₁.heap = h0 := by rw [← hh, Bd.state]; rfl
  have pre0 : ∀ t, Steps p.tables e below (s₁.setTop (mkF m 0 #[.val (.ref s_OTP_USED)] [])) t → Steps p.tables e below (s₁.setTop (entryFrame m #[(.ref s_OTP_USED)] 1)) t := fun t k => castTop (ef_2_1 m s_OTP_USED) k
  have ne_BLOCKED_CREATED : s_BLOCKED ≠ s_CREATED := F_ordinal_BLOCKED.ne F_ordinal_CREATED (by simp)
  have ne_BLOCKED_OTP_USED : s_BLOCKED ≠ s_OTP_USED := F_ordinal_BLOCKED.ne F_ordinal_OTP_USED (by simp)
  have ne_CREATED_OTP_USED : s_CREATED ≠ s_OTP_USED := F_ordinal_CREATED.ne F_ordinal_OTP_USED (by simp)
  have ne_CREATED_REMOVED : s_CREATED ≠ s_REMOVED := F_ordinal_CREATED.ne F_ordinal_REMOVED (by simp)
  have ne_CREATED_ACTIVE : s_CREATED ≠ s_ACTIVE := F_ordinal_CREATED.ne F_ordinal_ACTIVE (by simp)
  have ne_OTP_USED_REMOVED : s_OTP_USED ≠ s_REMOVED := F_ordinal_OTP_USED.ne F_ordinal_REMOVED (by simp)
  have ne_OTP_USED_ACTIVE : s_OTP_USED ≠ s_ACTIVE := F_ordinal_OTP_USED.ne F_ordinal_ACTIVE (by simp)
  obtain ⟨T1, X1, e1, st1⟩ := getS2 X0 hx hZ hown (host := "") (Or.inl (hw _ (List.mem_of_getElem? (i := 13) rfl))) Via.refl e0 S_CREATED (g := (mkF m 1 #[vR s_OTP_USED] [iR s_OTP_USED])) rfl (hb hby d2_1)
  obtain ⟨T2, X2, e2, st2⟩ := getS2 X1 hx hZ hown (host := "") (Or.inl (hw _ (List.mem_of_getElem? (i := 16) rfl))) Via.refl e1 S_OTP_USED (g := (mkF m 8 #[vR s_OTP_USED] [iR s_OTP_USED])) rfl (hb hby d2_8)
  obtain ⟨fs, hr, hrun, hended, hW, hsame⟩ := X2.leave (v := some (.int (1 : Int32))) (fun h => by rw [Bd.returns] at h; cases h)
  refine ⟨_, _, pre0 _ ?_, hrun, hended, _, _, rfl, ?_, ⟨_, rfl⟩, hW, hsame.mono (by decide) (by decide)⟩
  · show Steps _ _ _ (s₁.setTop (mkF m 0 #[vR s_OTP_USED] [])) _
    refine XS.aloadN X0.here hx rfl (hb hby d2_0) rfl rfl ?_
    show Steps _ _ _ (s₁.setTop (mkF m 1 #[vR s_OTP_USED] [iR s_OTP_USED])) _
    refine st1 _ ?_
    show Steps _ _ _ (T1.setTop (mkF m 4 #[vR s_OTP_USED] [iR s_CREATED, iR s_OTP_USED])) _
    refine Jvm.RoadKit.acmp (g := (mkF m 4 #[vR s_OTP_USED] [iR s_CREATED, iR s_OTP_USED])) X1 hx rfl rfl rfl (pc0 := 4) (pc' := 7) (same := false) rfl (hb hby d2_4) rfl (decide_eq_false fun q => (Ne.symm ne_CREATED_OTP_USED) (Value.ref.inj q)) (by decide) (by decide) ?_
    show Steps _ _ _ (T1.setTop (mkF m 7 #[vR s_OTP_USED] [])) _
    refine XS.aloadN X1.here hx rfl (hb hby d2_7) rfl rfl ?_
    show Steps _ _ _ (T1.setTop (mkF m 8 #[vR s_OTP_USED] [iR s_OTP_USED])) _
    refine st2 _ ?_
    show Steps _ _ _ (T2.setTop (mkF m 11 #[vR s_OTP_USED] [iR s_OTP_USED, iR s_OTP_USED])) _
    refine Jvm.RoadKit.acmp (g := (mkF m 11 #[vR s_OTP_USED] [iR s_OTP_USED, iR s_OTP_USED])) X2 hx rfl rfl rfl (pc0 := 11) (pc' := 14) (same := true) rfl (hb hby d2_11) rfl (decide_eq_true rfl) (by decide) (by decide) ?_
    show Steps _ _ _ (T2.setTop (mkF m 14 #[vR s_OTP_USED] [])) _
    refine XS.iconst X2.here hx rfl (hb hby d2_14) ?_
    show Steps _ _ _ (T2.setTop (mkF m 15 #[vR s_OTP_USED] [iI 1])) _
    refine XS.goto X2.here hx rfl (pc0 := 15) (pc' := 19) rfl (hb hby d2_15) (by decide) (by decide) ?_
    show Steps _ _ _ (T2.setTop (mkF m 19 #[vR s_OTP_USED] [iI 1])) _
    exact retN X2 hx (t := .boolean) Bd.returns (by simp) (hb hby d2_19) hr
  · show Q2_1 Z s_CREATED s_BLOCKED s_OTP_USED s_REMOVED s_ACTIVE h0 _ T2.heap _
    rw [e2]
    exact ⟨rfl, rfl, rfl⟩
theorem d2_18 : decode prog_7_method_4_code 18 = .ok (.iconst 0, 1) := by decide +kernel
theorem ef_2_2 (m : MethodId) (x0 : Addr) : entryFrame m #[(.ref x0)] 1 = mkF m 0 #[.val (.ref x0)] [] := by first | (simp [entryFrame, mkF, argsToLocals, Value.category]; done) | rfl
def Q2_2 (Z : State) (s_CREATED : Addr) (s_BLOCKED : Addr) (s_OTP_USED : Addr) (s_REMOVED : Addr) (s_ACTIVE : Addr) (h0 : Heap) (v : Option Value) (h : Heap) (L : List Loc) : Prop := v = some (.int (0 : Int32)) ∧ L = [] ∧ h = h0
set_option maxRecDepth 65536 in
set_option maxHeartbeats 40000000 in
theorem rm2_2 (l : Launch) (Z : State) (a0 : Array Value) (hw : ∀ d ∈ tables_1, d.before a0 Z = true) (ws : List Jvm.Cond) (s_CREATED : Addr) (s_BLOCKED : Addr) (s_OTP_USED : Addr) (s_REMOVED : Addr) (s_ACTIVE : Addr) (h0 : Heap) (S_CREATED : Sta Z h0 "com/example/threefold/threefold/protocol/ActivationStatus" "CREATED" "Lcom/example/threefold/threefold/protocol/ActivationStatus;" (.ref s_CREATED)) (E_CREATED : Exa Z h0 s_CREATED "com/example/threefold/threefold/protocol/ActivationStatus") (S_BLOCKED : Sta Z h0 "com/example/threefold/threefold/protocol/ActivationStatus" "BLOCKED" "Lcom/example/threefold/threefold/protocol/ActivationStatus;" (.ref s_BLOCKED)) (E_BLOCKED : Exa Z h0 s_BLOCKED "com/example/threefold/threefold/protocol/ActivationStatus") (F_ordinal_BLOCKED : Fld Z h0 s_BLOCKED "java/lang/Enum" "ordinal" "I" (.int (3 : Int32))) (F_ordinal_CREATED : Fld Z h0 s_CREATED "java/lang/Enum" "ordinal" "I" (.int (0 : Int32))) (S_OTP_USED : Sta Z h0 "com/example/threefold/threefold/protocol/ActivationStatus" "OTP_USED" "Lcom/example/threefold/threefold/protocol/ActivationStatus;" (.ref s_OTP_USED)) (E_OTP_USED : Exa Z h0 s_OTP_USED "com/example/threefold/threefold/protocol/ActivationStatus") (F_ordinal_OTP_USED : Fld Z h0 s_OTP_USED "java/lang/Enum" "ordinal" "I" (.int (1 : Int32))) (S_REMOVED : Sta Z h0 "com/example/threefold/threefold/protocol/ActivationStatus" "REMOVED" "Lcom/example/threefold/threefold/protocol/ActivationStatus;" (.ref s_REMOVED)) (E_REMOVED : Exa Z h0 s_REMOVED "com/example/threefold/threefold/protocol/ActivationStatus") (F_ordinal_REMOVED : Fld Z h0 s_REMOVED "java/lang/Enum" "ordinal" "I" (.int (4 : Int32))) (S_ACTIVE : Sta Z h0 "com/example/threefold/threefold/protocol/ActivationStatus" "ACTIVE" "Lcom/example/threefold/threefold/protocol/ActivationStatus;" (.ref s_ACTIVE)) (E_ACTIVE : Exa Z h0 s_ACTIVE "com/example/threefold/threefold/protocol/ActivationStatus") (F_ordinal_ACTIVE : Fld Z h0 s_ACTIVE "java/lang/Enum" "ordinal" "I" (.int (2 : Int32))) :
    MetFree l (⟨"com/example/threefold/threefold/protocol/ActivationStatus", "isPending", "()Z"⟩ : MethodName) (head1 (Jvm.Cond.code (⟨"com/example/threefold/threefold/protocol/ActivationStatus", "isPending", "()Z"⟩ : MethodName) prog_7_method_4_code 1 (some .boolean) :: ws) ({ frames := 0, cells := 0, slots := 0, locals := 0 } : Room)) (fun a U => a = #[(.ref s_ACTIVE)] ∧ Z.Warmed39 U.vm ∧ U.heap = h0) (fun _ _ _ _ _ => True) (fun _ U o U' => ∃ v L, o = .returned v ∧ Q2_2 Z s_CREATED s_BLOCKED s_OTP_USED s_REMOVED s_ACTIVE h0 v U'.heap L ∧ FrameEnd U o U' L ({ frames := 0, cells := 0, slots := 0, locals := 0 } : Room).cells ({ frames := 0, cells := 0, slots := 0, locals := 0 } : Room).slots) := by
  refine MetFree.of_bodySF (plainFor_of_name pn_1) hisR ?_
  intro p e s m args below meth c s₁ Bd hml0 hP hK
  obtain ⟨rfl, hZ, hh⟩ := hP
  have hx := Bd.exec
  have hby := Bd.bytes
  have hml : c.maxLocals = 1 := hml0
  have hown : s.vm.findClass "com/example/threefold/threefold/protocol/ActivationStatus" = some m.cls := findClass_of_methodNamed Bd.named
  have hnm := (name_of_methodNamed Bd.named Bd.method).1
  have X0 : Stand p l e ({ frames := 0, cells := 0, slots := 0, locals := 0 } : Room) s m #[(.ref s_ACTIVE)] below meth c s₁ [] 0 0 := Stand.of_body Bd
  have e0 : s₁.heap = h0 := by rw [← hh, Bd.state]; rfl
  have pre0 : ∀ t, Steps p.tables e below (s₁.setTop (mkF m 0 #[.val (.ref s_ACTIVE)] [])) t → Steps p.tables e below (s₁.setTop (entryFrame m #[(.ref s_ACTIVE)] 1)) t := fun t k => castTop (ef_2_2 m s_ACTIVE) k
  have ne_BLOCKED_CREATED : s_BLOCKED ≠ s_CREATED := F_ordinal_BLOCKED.ne F_ordinal_CREATED (by simp)
  have ne_BLOCKED_OTP_USED : s_BLOCKED ≠ s_OTP_USED := F_ordinal_BLOCKED.ne F_ordinal_OTP_USED (by simp)
  have ne_CREATED_OTP_USED : s_CREATED ≠ s_OTP_USED := F_ordinal_CREATED.ne F_ordinal_OTP_USED (by simp)
  have ne_CREATED_REMOVED : s_CREATED ≠ s_REMOVED := F_ordinal_CREATED.ne F_ordinal_REMOVED (by simp)
  have ne_CREATED_ACTIVE : s_CREATED ≠ s_ACTIVE := F_ordinal_CREATED.ne F_ordinal_ACTIVE (by simp)
  have ne_OTP_USED_REMOVED : s_OTP_USED ≠ s_REMOVED := F_ordinal_OTP_USED.ne F_ordinal_REMOVED (by simp)
  have ne_OTP_USED_ACTIVE : s_OTP_USED ≠ s_ACTIVE := F_ordinal_OTP_USED.ne F_ordinal_ACTIVE (by simp)
  obtain ⟨T1, X1, e1, st1⟩ := getS2 X0 hx hZ hown (host := "") (Or.inl (hw _ (List.mem_of_getElem? (i := 13) rfl))) Via.refl e0 S_CREATED (g := (mkF m 1 #[vR s_ACTIVE] [iR s_ACTIVE])) rfl (hb hby d2_1)
  obtain ⟨T2, X2, e2, st2⟩ := getS2 X1 hx hZ hown (host := "") (Or.inl (hw _ (List.mem_of_getElem? (i := 16) rfl))) Via.refl e1 S_OTP_USED (g := (mkF m 8 #[vR s_ACTIVE] [iR s_ACTIVE])) rfl (hb hby d2_8)
  obtain ⟨fs, hr, hrun, hended, hW, hsame⟩ := X2.leave (v := some (.int (0 : Int32))) (fun h => by rw [Bd.returns] at h; cases h)
  refine ⟨_, _, pre0 _ ?_, hrun, hended, _, _, rfl, ?_, ⟨_, rfl⟩, hW, hsame.mono (by decide) (by decide)⟩
  · show Steps _ _ _ (s₁.setTop (mkF m 0 #[vR s_ACTIVE] [])) _
    refine XS.aloadN X0.here hx rfl (hb hby d2_0) rfl rfl ?_
    show Steps _ _ _ (s₁.setTop (mkF m 1 #[vR s_ACTIVE] [iR s_ACTIVE])) _
    refine st1 _ ?_
    show Steps _ _ _ (T1.setTop (mkF m 4 #[vR s_ACTIVE] [iR s_CREATED, iR s_ACTIVE])) _
    refine Jvm.RoadKit.acmp (g := (mkF m 4 #[vR s_ACTIVE] [iR s_CREATED, iR s_ACTIVE])) X1 hx rfl rfl rfl (pc0 := 4) (pc' := 7) (same := false) rfl (hb hby d2_4) rfl (decide_eq_false fun q => (Ne.symm ne_CREATED_ACTIVE) (Value.ref.inj q)) (by decide) (by decide) ?_
    show Steps _ _ _ (T1.setTop (mkF m 7 #[vR s_ACTIVE] [])) _
    refine XS.aloadN X1.here hx rfl (hb hby d2_7) rfl rfl ?_
    show Steps _ _ _ (T1.setTop (mkF m 8 #[vR s_ACTIVE] [iR s_ACTIVE])) _
    refine st2 _ ?_
    show Steps _ _ _ (T2.setTop (mkF m 11 #[vR s_ACTIVE] [iR s_OTP_USED, iR s_ACTIVE])) _
    refine Jvm.RoadKit.acmp (g := (mkF m 11 #[vR s_ACTIVE] [iR s_OTP_USED, iR s_ACTIVE])) X2 hx rfl rfl rfl (pc0 := 11) (pc' := 18) (same := false) rfl (hb hby d2_11) rfl (decide_eq_false fun q => (Ne.symm ne_OTP_USED_ACTIVE) (Value.ref.inj q)) (by decide) (by decide) ?_
    show Steps _ _ _ (T2.setTop (mkF m 18 #[vR s_ACTIVE] [])) _
    refine XS.iconst X2.here hx rfl (hb hby d2_18) ?_
    show Steps _ _ _ (T2.setTop (mkF m 19 #[vR s_ACTIVE] [iI 0])) _
    exact retN X2 hx (t := .boolean) Bd.returns (by simp) (hb hby d2_19) hr
  · show Q2_2 Z s_CREATED s_BLOCKED s_OTP_USED s_REMOVED s_ACTIVE h0 _ T2.heap _
    rw [e2]
    exact ⟨rfl, rfl, rfl⟩
theorem ef_2_3 (m : MethodId) (x0 : Addr) : entryFrame m #[(.ref x0)] 1 = mkF m 0 #[.val (.ref x0)] [] := by first | (simp [entryFrame, mkF, argsToLocals, Value.category]; done) | rfl
def Q2_3 (Z : State) (s_CREATED : Addr) (s_BLOCKED : Addr) (s_OTP_USED : Addr) (s_REMOVED : Addr) (s_ACTIVE : Addr) (h0 : Heap) (v : Option Value) (h : Heap) (L : List Loc) : Prop := v = some (.int (0 : Int32)) ∧ L = [] ∧ h = h0
set_option maxRecDepth 65536 in
set_option maxHeartbeats 40000000 in
theorem rm2_3 (l : Launch) (Z : State) (a0 : Array Value) (hw : ∀ d ∈ tables_1, d.before a0 Z = true) (ws : List Jvm.Cond) (s_CREATED : Addr) (s_BLOCKED : Addr) (s_OTP_USED : Addr) (s_REMOVED : Addr) (s_ACTIVE : Addr) (h0 : Heap) (S_CREATED : Sta Z h0 "com/example/threefold/threefold/protocol/ActivationStatus" "CREATED" "Lcom/example/threefold/threefold/protocol/ActivationStatus;" (.ref s_CREATED)) (E_CREATED : Exa Z h0 s_CREATED "com/example/threefold/threefold/protocol/ActivationStatus") (S_BLOCKED : Sta Z h0 "com/example/threefold/threefold/protocol/ActivationStatus" "BLOCKED" "Lcom/example/threefold/threefold/protocol/ActivationStatus;" (.ref s_BLOCKED)) (E_BLOCKED : Exa Z h0 s_BLOCKED "com/example/threefold/threefold/protocol/ActivationStatus") (F_ordinal_BLOCKED : Fld Z h0 s_BLOCKED "java/lang/Enum" "ordinal" "I" (.int (3 : Int32))) (F_ordinal_CREATED : Fld Z h0 s_CREATED "java/lang/Enum" "ordinal" "I" (.int (0 : Int32))) (S_OTP_USED : Sta Z h0 "com/example/threefold/threefold/protocol/ActivationStatus" "OTP_USED" "Lcom/example/threefold/threefold/protocol/ActivationStatus;" (.ref s_OTP_USED)) (E_OTP_USED : Exa Z h0 s_OTP_USED "com/example/threefold/threefold/protocol/ActivationStatus") (F_ordinal_OTP_USED : Fld Z h0 s_OTP_USED "java/lang/Enum" "ordinal" "I" (.int (1 : Int32))) (S_REMOVED : Sta Z h0 "com/example/threefold/threefold/protocol/ActivationStatus" "REMOVED" "Lcom/example/threefold/threefold/protocol/ActivationStatus;" (.ref s_REMOVED)) (E_REMOVED : Exa Z h0 s_REMOVED "com/example/threefold/threefold/protocol/ActivationStatus") (F_ordinal_REMOVED : Fld Z h0 s_REMOVED "java/lang/Enum" "ordinal" "I" (.int (4 : Int32))) (S_ACTIVE : Sta Z h0 "com/example/threefold/threefold/protocol/ActivationStatus" "ACTIVE" "Lcom/example/threefold/threefold/protocol/ActivationStatus;" (.ref s_ACTIVE)) (E_ACTIVE : Exa Z h0 s_ACTIVE "com/example/threefold/threefold/protocol/ActivationStatus") (F_ordinal_ACTIVE : Fld Z h0 s_ACTIVE "java/lang/Enum" "ordinal" "I" (.int (2 : Int32))) :
    MetFree l (⟨"com/example/threefold/threefold/protocol/ActivationStatus", "isPending", "()Z"⟩ : MethodName) (head1 (Jvm.Cond.code (⟨"com/example/threefold/threefold/protocol/ActivationStatus", "isPending", "()Z"⟩ : MethodName) prog_7_method_4_code 1 (some .boolean) :: ws) ({ frames := 0, cells := 0, slots := 0, locals := 0 } : Room)) (fun a U => a = #[(.ref s_BLOCKED)] ∧ Z.Warmed39 U.vm ∧ U.heap = h0) (fun _ _ _ _ _ => True) (fun _ U o U' => ∃ v L, o = .returned v ∧ Q2_3 Z s_CREATED s_BLOCKED s_OTP_USED s_REMOVED s_ACTIVE h0 v U'.heap L ∧ FrameEnd U o U' L ({ frames := 0, cells := 0, slots := 0, locals := 0 } : Room).cells ({ frames := 0, cells := 0, slots := 0, locals := 0 } : Room).slots) := by
  refine MetFree.of_bodySF (plainFor_of_name pn_1) hisR ?_
  intro p e s m args below meth c s₁ Bd hml0 hP hK
  obtain ⟨rfl, hZ, hh⟩ := hP
  have hx := Bd.exec
  have hby := Bd.bytes
  have hml : c.maxLocals = 1 := hml0
  have hown : s.vm.findClass "com/example/threefold/threefold/protocol/ActivationStatus" = some m.cls := findClass_of_methodNamed Bd.named
  have hnm := (name_of_methodNamed Bd.named Bd.method).1
  have X0 : Stand p l e ({ frames := 0, cells := 0, slots := 0, locals := 0 } : Room) s m #[(.ref s_BLOCKED)] below meth c s₁ [] 0 0 := Stand.of_body Bd
  have e0 : s₁.heap = h0 := by rw [← hh, Bd.state]; rfl
  have pre0 : ∀ t, Steps p.tables e below (s₁.setTop (mkF m 0 #[.val (.ref s_BLOCKED)] [])) t → Steps p.tables e below (s₁.setTop (entryFrame m #[(.ref s_BLOCKED)] 1)) t := fun t k => castTop (ef_2_3 m s_BLOCKED) k
  have ne_BLOCKED_CREATED : s_BLOCKED ≠ s_CREATED := F_ordinal_BLOCKED.ne F_ordinal_CREATED (by simp)
  have ne_BLOCKED_OTP_USED : s_BLOCKED ≠ s_OTP_USED := F_ordinal_BLOCKED.ne F_ordinal_OTP_USED (by simp)
  have ne_CREATED_OTP_USED : s_CREATED ≠ s_OTP_USED := F_ordinal_CREATED.ne F_ordinal_OTP_USED (by simp)
  have ne_CREATED_REMOVED : s_CREATED ≠ s_REMOVED := F_ordinal_CREATED.ne F_ordinal_REMOVED (by simp)
  have ne_CREATED_ACTIVE : s_CREATED ≠ s_ACTIVE := F_ordinal_CREATED.ne F_ordinal_ACTIVE (by simp)
  have ne_OTP_USED_REMOVED : s_OTP_USED ≠ s_REMOVED := F_ordinal_OTP_USED.ne F_ordinal_REMOVED (by simp)
  have ne_OTP_USED_ACTIVE : s_OTP_USED ≠ s_ACTIVE := F_ordinal_OTP_USED.ne F_ordinal_ACTIVE (by simp)
  obtain ⟨T1, X1, e1, st1⟩ := getS2 X0 hx hZ hown (host := "") (Or.inl (hw _ (List.mem_of_getElem? (i := 13) rfl))) Via.refl e0 S_CREATED (g := (mkF m 1 #[vR s_BLOCKED] [iR s_BLOCKED])) rfl (hb hby d2_1)
  obtain ⟨T2, X2, e2, st2⟩ := getS2 X1 hx hZ hown (host := "") (Or.inl (hw _ (List.mem_of_getElem? (i := 16) rfl))) Via.refl e1 S_OTP_USED (g := (mkF m 8 #[vR s_BLOCKED] [iR s_BLOCKED])) rfl (hb hby d2_8)
  obtain ⟨fs, hr, hrun, hended, hW, hsame⟩ := X2.leave (v := some (.int (0 : Int32))) (fun h => by rw [Bd.returns] at h; cases h)
  refine ⟨_, _, pre0 _ ?_, hrun, hended, _, _, rfl, ?_, ⟨_, rfl⟩, hW, hsame.mono (by decide) (by decide)⟩
  · show Steps _ _ _ (s₁.setTop (mkF m 0 #[vR s_BLOCKED] [])) _
    refine XS.aloadN X0.here hx rfl (hb hby d2_0) rfl rfl ?_
    show Steps _ _ _ (s₁.setTop (mkF m 1 #[vR s_BLOCKED] [iR s_BLOCKED])) _
    refine st1 _ ?_
    show Steps _ _ _ (T1.setTop (mkF m 4 #[vR s_BLOCKED] [iR s_CREATED, iR s_BLOCKED])) _
    refine Jvm.RoadKit.acmp (g := (mkF m 4 #[vR s_BLOCKED] [iR s_CREATED, iR s_BLOCKED])) X1 hx rfl rfl rfl (pc0 := 4) (pc' := 7) (same := false) rfl (hb hby d2_4) rfl (decide_eq_false fun q => ne_BLOCKED_CREATED (Value.ref.inj q)) (by decide) (by decide) ?_
    show Steps _ _ _ (T1.setTop (mkF m 7 #[vR s_BLOCKED] [])) _
    refine XS.aloadN X1.here hx rfl (hb hby d2_7) rfl rfl ?_
    show Steps _ _ _ (T1.setTop (mkF m 8 #[vR s_BLOCKED] [iR s_BLOCKED])) _
    refine st2 _ ?_
    show Steps _ _ _ (T2.setTop (mkF m 11 #[vR s_BLOCKED] [iR s_OTP_USED, iR s_BLOCKED])) _
    refine Jvm.RoadKit.acmp (g := (mkF m 11 #[vR s_BLOCKED] [iR s_OTP_USED, iR s_BLOCKED])) X2 hx rfl rfl rfl (pc0 := 11) (pc' := 18) (same := false) rfl (hb hby d2_11) rfl (decide_eq_false fun q => ne_BLOCKED_OTP_USED (Value.ref.inj q)) (by decide) (by decide) ?_
    show Steps _ _ _ (T2.setTop (mkF m 18 #[vR s_BLOCKED] [])) _
    refine XS.iconst X2.here hx rfl (hb hby d2_18) ?_
    show Steps _ _ _ (T2.setTop (mkF m 19 #[vR s_BLOCKED] [iI 0])) _
    exact retN X2 hx (t := .boolean) Bd.returns (by simp) (hb hby d2_19) hr
  · show Q2_3 Z s_CREATED s_BLOCKED s_OTP_USED s_REMOVED s_ACTIVE h0 _ T2.heap _
    rw [e2]
    exact ⟨rfl, rfl, rfl⟩
theorem ef_2_4 (m : MethodId) (x0 : Addr) : entryFrame m #[(.ref x0)] 1 = mkF m 0 #[.val (.ref x0)] [] := by first | (simp [entryFrame, mkF, argsToLocals, Value.category]; done) | rfl
def Q2_4 (Z : State) (s_CREATED : Addr) (s_BLOCKED : Addr) (s_OTP_USED : Addr) (s_REMOVED : Addr) (s_ACTIVE : Addr) (h0 : Heap) (v : Option Value) (h : Heap) (L : List Loc) : Prop := v = some (.int (0 : Int32)) ∧ L = [] ∧ h = h0
set_option maxRecDepth 65536 in
set_option maxHeartbeats 40000000 in
theorem rm2_4 (l : Launch) (Z : State) (a0 : Array Value) (hw : ∀ d ∈ tables_1, d.before a0 Z = true) (ws : List Jvm.Cond) (s_CREATED : Addr) (s_BLOCKED : Addr) (s_OTP_USED : Addr) (s_REMOVED : Addr) (s_ACTIVE : Addr) (h0 : Heap) (S_CREATED : Sta Z h0 "com/example/threefold/threefold/protocol/ActivationStatus" "CREATED" "Lcom/example/threefold/threefold/protocol/ActivationStatus;" (.ref s_CREATED)) (E_CREATED : Exa Z h0 s_CREATED "com/example/threefold/threefold/protocol/ActivationStatus") (S_BLOCKED : Sta Z h0 "com/example/threefold/threefold/protocol/ActivationStatus" "BLOCKED" "Lcom/example/threefold/threefold/protocol/ActivationStatus;" (.ref s_BLOCKED)) (E_BLOCKED : Exa Z h0 s_BLOCKED "com/example/threefold/threefold/protocol/ActivationStatus") (F_ordinal_BLOCKED : Fld Z h0 s_BLOCKED "java/lang/Enum" "ordinal" "I" (.int (3 : Int32))) (F_ordinal_CREATED : Fld Z h0 s_CREATED "java/lang/Enum" "ordinal" "I" (.int (0 : Int32))) (S_OTP_USED : Sta Z h0 "com/example/threefold/threefold/protocol/ActivationStatus" "OTP_USED" "Lcom/example/threefold/threefold/protocol/ActivationStatus;" (.ref s_OTP_USED)) (E_OTP_USED : Exa Z h0 s_OTP_USED "com/example/threefold/threefold/protocol/ActivationStatus") (F_ordinal_OTP_USED : Fld Z h0 s_OTP_USED "java/lang/Enum" "ordinal" "I" (.int (1 : Int32))) (S_REMOVED : Sta Z h0 "com/example/threefold/threefold/protocol/ActivationStatus" "REMOVED" "Lcom/example/threefold/threefold/protocol/ActivationStatus;" (.ref s_REMOVED)) (E_REMOVED : Exa Z h0 s_REMOVED "com/example/threefold/threefold/protocol/ActivationStatus") (F_ordinal_REMOVED : Fld Z h0 s_REMOVED "java/lang/Enum" "ordinal" "I" (.int (4 : Int32))) (S_ACTIVE : Sta Z h0 "com/example/threefold/threefold/protocol/ActivationStatus" "ACTIVE" "Lcom/example/threefold/threefold/protocol/ActivationStatus;" (.ref s_ACTIVE)) (E_ACTIVE : Exa Z h0 s_ACTIVE "com/example/threefold/threefold/protocol/ActivationStatus") (F_ordinal_ACTIVE : Fld Z h0 s_ACTIVE "java/lang/Enum" "ordinal" "I" (.int (2 : Int32))) :
    MetFree l (⟨"com/example/threefold/threefold/protocol/ActivationStatus", "isPending", "()Z"⟩ : MethodName) (head1 (Jvm.Cond.code (⟨"com/example/threefold/threefold/protocol/ActivationStatus", "isPending", "()Z"⟩ : MethodName) prog_7_method_4_code 1 (some .boolean) :: ws) ({ frames := 0, cells := 0, slots := 0, locals := 0 } : Room)) (fun a U => a = #[(.ref s_REMOVED)] ∧ Z.Warmed39 U.vm ∧ U.heap = h0) (fun _ _ _ _ _ => True) (fun _ U o U' => ∃ v L, o = .returned v ∧ Q2_4 Z s_CREATED s_BLOCKED s_OTP_USED s_REMOVED s_ACTIVE h0 v U'.heap L ∧ FrameEnd U o U' L ({ frames := 0, cells := 0, slots := 0, locals := 0 } : Room).cells ({ frames := 0, cells := 0, slots := 0, locals := 0 } : Room).slots) := by
  refine MetFree.of_bodySF (plainFor_of_name pn_1) hisR ?_
  intro p e s m args below meth c s₁ Bd hml0 hP hK
  obtain ⟨rfl, hZ, hh⟩ := hP
  have hx := Bd.exec
  have hby := Bd.bytes
  have hml : c.maxLocals = 1 := hml0
  have hown : s.vm.findClass "com/example/threefold/threefold/protocol/ActivationStatus" = some m.cls := findClass_of_methodNamed Bd.named
  have hnm := (name_of_methodNamed Bd.named Bd.method).1
  have X0 : Stand p l e ({ frames := 0, cells := 0, slots := 0, locals := 0 } : Room) s m #[(.ref s_REMOVED)] below meth c s₁ [] 0 0 := Stand.of_body Bd
  have e0 : s₁.heap = h0 := by rw [← hh, Bd.state]; rfl
  have pre0 : ∀ t, Steps p.tables e below (s₁.setTop (mkF m 0 #[.val (.ref s_REMOVED)] [])) t → Steps p.tables e below (s₁.setTop (entryFrame m #[(.ref s_REMOVED)] 1)) t := fun t k => castTop (ef_2_4 m s_REMOVED) k
  have ne_BLOCKED_CREATED : s_BLOCKED ≠ s_CREATED := F_ordinal_BLOCKED.ne F_ordinal_CREATED (by simp)
  have ne_BLOCKED_OTP_USED : s_BLOCKED ≠ s_OTP_USED := F_ordinal_BLOCKED.ne F_ordinal_OTP_USED (by simp)
  have ne_CREATED_OTP_USED : s_CREATED ≠ s_OTP_USED := F_ordinal_CREATED.ne F_ordinal_OTP_USED (by simp)
  have ne_CREATED_REMOVED : s_CREATED ≠ s_REMOVED := F_ordinal_CREATED.ne F_ordinal_REMOVED (by simp)
  have ne_CREATED_ACTIVE : s_CREATED ≠ s_ACTIVE := F_ordinal_CREATED.ne F_ordinal_ACTIVE (by simp)
  have ne_OTP_USED_REMOVED : s_OTP_USED ≠ s_REMOVED := F_ordinal_OTP_USED.ne F_ordinal_REMOVED (by simp)
  have ne_OTP_USED_ACTIVE : s_OTP_USED ≠ s_ACTIVE := F_ordinal_OTP_USED.ne F_ordinal_ACTIVE (by simp)
  obtain ⟨T1, X1, e1, st1⟩ := getS2 X0 hx hZ hown (host := "") (Or.inl (hw _ (List.mem_of_getElem? (i := 13) rfl))) Via.refl e0 S_CREATED (g := (mkF m 1 #[vR s_REMOVED] [iR s_REMOVED])) rfl (hb hby d2_1)
  obtain ⟨T2, X2, e2, st2⟩ := getS2 X1 hx hZ hown (host := "") (Or.inl (hw _ (List.mem_of_getElem? (i := 16) rfl))) Via.refl e1 S_OTP_USED (g := (mkF m 8 #[vR s_REMOVED] [iR s_REMOVED])) rfl (hb hby d2_8)
  obtain ⟨fs, hr, hrun, hended, hW, hsame⟩ := X2.leave (v := some (.int (0 : Int32))) (fun h => by rw [Bd.returns] at h; cases h)
  refine ⟨_, _, pre0 _ ?_, hrun, hended, _, _, rfl, ?_, ⟨_, rfl⟩, hW, hsame.mono (by decide) (by decide)⟩
  · show Steps _ _ _ (s₁.setTop (mkF m 0 #[vR s_REMOVED] [])) _
    refine XS.aloadN X0.here hx rfl (hb hby d2_0) rfl rfl ?_
    show Steps _ _ _ (s₁.setTop (mkF m 1 #[vR s_REMOVED] [iR s_REMOVED])) _
    refine st1 _ ?_
    show Steps _ _ _ (T1.setTop (mkF m 4 #[vR s_REMOVED] [iR s_CREATED, iR s_REMOVED])) _
    refine Jvm.RoadKit.acmp (g := (mkF m 4 #[vR s_REMOVED] [iR s_CREATED, iR s_REMOVED])) X1 hx rfl rfl rfl (pc0 := 4) (pc' := 7) (same := false) rfl (hb hby d2_4) rfl (decide_eq_false fun q => (Ne.symm ne_CREATED_REMOVED) (Value.ref.inj q)) (by decide) (by decide) ?_
    show Steps _ _ _ (T1.setTop (mkF m 7 #[vR s_REMOVED] [])) _
    refine XS.aloadN X1.here hx rfl (hb hby d2_7) rfl rfl ?_
    show Steps _ _ _ (T1.setTop (mkF m 8 #[vR s_REMOVED] [iR s_REMOVED])) _
    refine st2 _ ?_
    show Steps _ _ _ (T2.setTop (mkF m 11 #[vR s_REMOVED] [iR s_OTP_USED, iR s_REMOVED])) _
    refine Jvm.RoadKit.acmp (g := (mkF m 11 #[vR s_REMOVED] [iR s_OTP_USED, iR s_REMOVED])) X2 hx rfl rfl rfl (pc0 := 11) (pc' := 18) (same := false) rfl (hb hby d2_11) rfl (decide_eq_false fun q => (Ne.symm ne_OTP_USED_REMOVED) (Value.ref.inj q)) (by decide) (by decide) ?_
    show Steps _ _ _ (T2.setTop (mkF m 18 #[vR s_REMOVED] [])) _
    refine XS.iconst X2.here hx rfl (hb hby d2_18) ?_
    show Steps _ _ _ (T2.setTop (mkF m 19 #[vR s_REMOVED] [iI 0])) _
    exact retN X2 hx (t := .boolean) Bd.returns (by simp) (hb hby d2_19) hr
  · show Q2_4 Z s_CREATED s_BLOCKED s_OTP_USED s_REMOVED s_ACTIVE h0 _ T2.heap _
    rw [e2]
    exact ⟨rfl, rfl, rfl⟩
theorem ef_0 (m : MethodId) (x0 : Int32) : entryFrame m #[(.int x0)] maxLocals = mkF m 0 #[.val (.int x0), .unset, .unset, .unset] [] := by first | (simp [entryFrame, mkF, argsToLocals, Value.category, maxLocals]; done) | rfl
def Q0 (Z : State) (p1 : Int32) (s_CREATED : Addr) (s_BLOCKED : Addr) (s_OTP_USED : Addr) (s_REMOVED : Addr) (s_ACTIVE : Addr) (h0 : Heap) (v : Option Value) (h : Heap) (L : List Loc) : Prop := v = some (.int (1 : Int32)) ∧ L = [] ∧ h = h0
set_option maxRecDepth 65536 in
set_option maxHeartbeats 40000000 in
theorem rm0 (l : Launch) (Z : State) (a0 : Array Value) (hw : ∀ d ∈ tables_1, d.before a0 Z = true) (ws : List Jvm.Cond) (p1 : Int32) (s_CREATED : Addr) (s_BLOCKED : Addr) (s_OTP_USED : Addr) (s_REMOVED : Addr) (s_ACTIVE : Addr) (h0 : Heap) (S_CREATED : Sta Z h0 "com/example/threefold/threefold/protocol/ActivationStatus" "CREATED" "Lcom/example/threefold/threefold/protocol/ActivationStatus;" (.ref s_CREATED)) (E_CREATED : Exa Z h0 s_CREATED "com/example/threefold/threefold/protocol/ActivationStatus") (S_BLOCKED : Sta Z h0 "com/example/threefold/threefold/protocol/ActivationStatus" "BLOCKED" "Lcom/example/threefold/threefold/protocol/ActivationStatus;" (.ref s_BLOCKED)) (E_BLOCKED : Exa Z h0 s_BLOCKED "com/example/threefold/threefold/protocol/ActivationStatus") (F_ordinal_BLOCKED : Fld Z h0 s_BLOCKED "java/lang/Enum" "ordinal" "I" (.int (3 : Int32))) (F_ordinal_CREATED : Fld Z h0 s_CREATED "java/lang/Enum" "ordinal" "I" (.int (0 : Int32))) (S_OTP_USED : Sta Z h0 "com/example/threefold/threefold/protocol/ActivationStatus" "OTP_USED" "Lcom/example/threefold/threefold/protocol/ActivationStatus;" (.ref s_OTP_USED)) (E_OTP_USED : Exa Z h0 s_OTP_USED "com/example/threefold/threefold/protocol/ActivationStatus") (F_ordinal_OTP_USED : Fld Z h0 s_OTP_USED "java/lang/Enum" "ordinal" "I" (.int (1 : Int32))) (S_REMOVED : Sta Z h0 "com/example/threefold/threefold/protocol/ActivationStatus" "REMOVED" "Lcom/example/threefold/threefold/protocol/ActivationStatus;" (.ref s_REMOVED)) (E_REMOVED : Exa Z h0 s_REMOVED "com/example/threefold/threefold/protocol/ActivationStatus") (F_ordinal_REMOVED : Fld Z h0 s_REMOVED "java/lang/Enum" "ordinal" "I" (.int (4 : Int32))) (S_ACTIVE : Sta Z h0 "com/example/threefold/threefold/protocol/ActivationStatus" "ACTIVE" "Lcom/example/threefold/threefold/protocol/ActivationStatus;" (.ref s_ACTIVE)) (E_ACTIVE : Exa Z h0 s_ACTIVE "com/example/threefold/threefold/protocol/ActivationStatus") (F_ordinal_ACTIVE : Fld Z h0 s_ACTIVE "java/lang/Enum" "ordinal" "I" (.int (2 : Int32))) :
    MetFree l x (head1 (Jvm.Cond.code x code maxLocals ret :: ws) room_1) (fun a U => a = #[(.int p1)] ∧ Z.Warmed39 U.vm ∧ U.heap = h0) (fun _ _ _ _ _ => True) (fun _ U o U' => ∃ v L, o = .returned v ∧ Q0 Z p1 s_CREATED s_BLOCKED s_OTP_USED s_REMOVED s_ACTIVE h0 v U'.heap L ∧ FrameEnd U o U' L room_1.cells room_1.slots) := by
  refine MetFree.of_bodySF (plainFor_of_name pn_0) hisR ?_
  intro p e s m args below meth c s₁ Bd hml0 hP hK
  obtain ⟨rfl, hZ, hh⟩ := hP
  have hx := Bd.exec
  have hby := Bd.bytes
  have hml : c.maxLocals = 4 := hml0
  have hown : s.vm.findClass "com/example/threefold/threefold/protocol/ActivationStatusIsPendingPinLaw" = some m.cls := findClass_of_methodNamed Bd.named
  have hnm := (name_of_methodNamed Bd.named Bd.method).1
  have X0 : Stand p l e room_1 s m #[(.int p1)] below meth c s₁ [] 0 0 := Stand.of_body Bd
  have e0 : s₁.heap = h0 := by rw [← hh, Bd.state]; rfl
  have pre0 : ∀ t, Steps p.tables e below (s₁.setTop (mkF m 0 #[.val (.int p1), .unset, .unset, .unset] [])) t → Steps p.tables e below (s₁.setTop (entryFrame m #[(.int p1)] maxLocals)) t := fun t k => castTop (ef_0 m p1) k
  obtain ⟨kv, hkv⟩ : ∃ z : Int32, z = ((p1 &&& (2147483647 : Int32)) % (5 : Int32)) := ⟨_, rfl⟩
  have qkv : kv = 0 ∨ kv = 1 ∨ kv = 2 ∨ kv = 3 ∨ kv = 4 := by rw [hkv]; exact own_small5 _ (own_rem p1 5 5 rfl (by decide)).1 (own_rem p1 5 5 rfl (by decide)).2
  have pre2 : ∀ t, Steps p.tables e below (s₁.setTop (mkF m 7 #[vI p1, vI kv, .unset, .unset] [])) t → Steps p.tables e below (s₁.setTop (entryFrame m #[(.int p1)] maxLocals)) t := by
    intro t kt
    refine pre0 t ?_
    show Steps _ _ _ (s₁.setTop (mkF m 0 #[vI p1, .unset, .unset, .unset] [])) _
    refine XS.iloadN X0.here hx rfl (hb hby at_0) rfl ?_
    show Steps _ _ _ (s₁.setTop (mkF m 1 #[vI p1, .unset, .unset, .unset] [iI p1])) _
    refine X0.ldcInt hx hown (mvT hZ (hw _ (List.mem_of_getElem? (i := 0) rfl))) (g := (mkF m 1 #[vI p1, .unset, .unset, .unset] [iI p1])) rfl (hb hby at_1) _ ?_
    show Steps _ _ _ (s₁.setTop (mkF m 3 #[vI p1, .unset, .unset, .unset] [iI 2147483647, iI p1])) _
    refine XS.iand X0.here hx rfl (hb hby at_3) rfl ?_
    show Steps _ _ _ (s₁.setTop (mkF m 4 #[vI p1, .unset, .unset, .unset] [iI (p1 &&& (2147483647 : Int32))])) _
    refine XS.iconst X0.here hx rfl (hb hby at_4) ?_
    show Steps _ _ _ (s₁.setTop (mkF m 5 #[vI p1, .unset, .unset, .unset] [iI 5, iI (p1 &&& (2147483647 : Int32))])) _
    refine iremM X0 hx rfl (hb hby at_5) rfl (by decide) ?_
    show Steps _ _ _ (s₁.setTop (mkF m 6 #[vI p1, .unset, .unset, .unset] [iI ((p1 &&& (2147483647 : Int32)) % (5 : Int32))])) _
    refine XS.istoreN X0.here hx rfl (hb hby at_6) rfl (l' := #[vI p1, vI ((p1 &&& (2147483647 : Int32)) % (5 : Int32)), .unset, .unset]) rfl ?_
    rw [← hkv]
    exact kt
  rcases qkv with rfl | rfl | rfl | rfl | rfl
  · obtain ⟨_, _, ⟨T3, L3, k3, n3⟩, -, X3, ⟨Lc3, hQ3, l3, y3, z3⟩, st3⟩ := Jvm.LawKit.callS X0 hx (y := (⟨"com/example/threefold/threefold/protocol/ActivationStatusIsPendingPinLaw", "pick", "(I)Lcom/example/threefold/threefold/protocol/ActivationStatus;"⟩ : MethodName)) hown (mvT hZ (hw _ (List.mem_of_getElem? (i := 1) rfl))) (mvT hZ (hw _ (List.mem_of_getElem? (i := 2) rfl))) (mvT hZ (hw _ (List.mem_of_getElem? (i := 3) rfl))) (mvT hZ (hw _ (List.mem_of_getElem? (i := 4) rfl))) (by decide) (backOf (W := 0) (rm1_0 l Z a0 hw []  s_CREATED s_BLOCKED s_OTP_USED s_REMOVED s_ACTIVE h0 S_CREATED E_CREATED S_BLOCKED E_BLOCKED F_ordinal_BLOCKED F_ordinal_CREATED S_OTP_USED E_OTP_USED F_ordinal_OTP_USED S_REMOVED E_REMOVED F_ordinal_REMOVED S_ACTIVE E_ACTIVE F_ordinal_ACTIVE) hZ (hw _ (List.mem_of_getElem? (i := 4) rfl)) (hw _ (List.mem_of_getElem? (i := 3) rfl)) (by decide) (by decide)) (g := (mkF m 8 #[vI p1, vI 0, .unset, .unset] [iI 0])) rfl (by rw [hml]; rfl) (argsL := [(.int (0 : Int32))]) (rest := []) (lenOf pd_0 rfl) rfl (by show 2 * 0 + _ ≤ _; exact Nat.le_of_eq rfl) (hb hby at_8) (fun _ _ => ⟨rfl, e0, (by decide : 0 + 0 ≤ _), (by decide : 0 + 0 ≤ _)⟩)
    dsimp only [Pt.U, Pt.locs, Pt.cells, Pt.slots] at X3 l3 y3 z3 st3 hQ3
    subst l3 y3 z3
    obtain ⟨rfl, rfl, e3⟩ := hQ3
    try rw [List.append_nil] at X3
    obtain ⟨cq4, kq4, q4a, q4b, q4c⟩ := isOf hZ e3 E_CREATED
    obtain ⟨_, _, ⟨T4, L4, k4, n4⟩, -, X4, ⟨Lc4, hQ4, l4, y4, z4⟩, st4⟩ := X3.virtualBack hx (y := (⟨"com/example/threefold/threefold/protocol/ActivationStatus", "isPending", "()Z"⟩ : MethodName)) (z := (⟨"com/example/threefold/threefold/protocol/ActivationStatus", "isPending", "()Z"⟩ : MethodName)) hown (mvT hZ (hw _ (List.mem_of_getElem? (i := 8) rfl))) (mvT hZ (hw _ (List.mem_of_getElem? (i := 9) rfl))) (notFace_of_selects (args := #[]) (mvT hZ (hw _ (List.mem_of_getElem? (i := 11) rfl)))) (mvT hZ (hw _ (List.mem_of_getElem? (i := 11) rfl))) (mvT hZ (hw _ (List.mem_of_getElem? (i := 10) rfl))) (by decide) (backOf (W := 0) (rm2_0 l Z a0 hw []  s_CREATED s_BLOCKED s_OTP_USED s_REMOVED s_ACTIVE h0 S_CREATED E_CREATED S_BLOCKED E_BLOCKED F_ordinal_BLOCKED F_ordinal_CREATED S_OTP_USED E_OTP_USED F_ordinal_OTP_USED S_REMOVED E_REMOVED F_ordinal_REMOVED S_ACTIVE E_ACTIVE F_ordinal_ACTIVE) hZ (hw _ (List.mem_of_getElem? (i := 12) rfl)) (hw _ (List.mem_of_getElem? (i := 6) rfl)) (by decide) (by decide)) q4a q4c (g := (mkF m 24 #[vI p1, vI 0, vR s_CREATED, vI 1] [iR s_CREATED])) rfl (by rw [hml]; rfl) (Steps.refl _) (argsL := []) (rest := []) (lenOf pd_1 rfl) rfl (by show 2 * 0 + _ ≤ _; exact Nat.le_of_eq rfl) (hb hby at_24) (fun _ _ => ⟨rfl, e3, (by decide : 0 + 0 ≤ _), (by decide : 0 + 0 ≤ _)⟩)
    dsimp only [Pt.U, Pt.locs, Pt.cells, Pt.slots] at X4 l4 y4 z4 st4 hQ4
    subst l4 y4 z4
    obtain ⟨rfl, rfl, e4⟩ := hQ4
    try rw [List.append_nil] at X4
    obtain ⟨fs, hr, hrun, hended, hW, hsame⟩ := X4.leave (v := some (.int (1 : Int32))) (fun h => by rw [Bd.returns] at h; cases h)
    refine ⟨_, _, pre2 _ ?_, hrun, hended, _, _, rfl, ?_, ⟨_, rfl⟩, hW, hsame.mono (by decide) (by decide)⟩
    · show Steps _ _ _ (s₁.setTop (mkF m 7 #[vI p1, vI 0, .unset, .unset] [])) _
      refine XS.iloadN X0.here hx rfl (hb hby at_7) rfl ?_
      show Steps _ _ _ (s₁.setTop (mkF m 8 #[vI p1, vI 0, .unset, .unset] [iI 0])) _
      refine st3 _ ?_
      show Steps _ _ _ (T3.setTop (mkF m 11 #[vI p1, vI 0, .unset, .unset] [iR s_CREATED])) _
      refine XS.astoreN X3.here hx rfl (hb hby at_11) rfl rfl (l' := #[vI p1, vI 0, vR s_CREATED, .unset]) rfl ?_
      show Steps _ _ _ (T3.setTop (mkF m 12 #[vI p1, vI 0, vR s_CREATED, .unset] [])) _
      refine XS.iloadN X3.here hx rfl (hb hby at_12) rfl ?_
      show Steps _ _ _ (T3.setTop (mkF m 13 #[vI p1, vI 0, vR s_CREATED, .unset] [iI 0])) _
      refine XS.iconst X3.here hx rfl (hb hby at_13) ?_
      show Steps _ _ _ (T3.setTop (mkF m 14 #[vI p1, vI 0, vR s_CREATED, .unset] [iI 1, iI 0])) _
      refine XS.icmpNo X3.here hx rfl (hb hby at_14) rfl (flt (by decide : ¬ ((1 : Int32) < (0 : Int32)))).2.2.1 ?_
      show Steps _ _ _ (T3.setTop (mkF m 17 #[vI p1, vI 0, vR s_CREATED, .unset] [])) _
      refine XS.iconst X3.here hx rfl (hb hby at_17) ?_
      show Steps _ _ _ (T3.setTop (mkF m 18 #[vI p1, vI 0, vR s_CREATED, .unset] [iI 1])) _
      refine XS.goto X3.here hx rfl (pc0 := 18) (pc' := 22) rfl (hb hby at_18) (by decide) (by decide) ?_
      show Steps _ _ _ (T3.setTop (mkF m 22 #[vI p1, vI 0, vR s_CREATED, .unset] [iI 1])) _
      refine XS.istoreN X3.here hx rfl (hb hby at_22) rfl (l' := #[vI p1, vI 0, vR s_CREATED, vI 1]) rfl ?_
      show Steps _ _ _ (T3.setTop (mkF m 23 #[vI p1, vI 0, vR s_CREATED, vI 1] [])) _
      refine XS.aloadN X3.here hx rfl (hb hby at_23) rfl rfl ?_
      show Steps _ _ _ (T3.setTop (mkF m 24 #[vI p1, vI 0, vR s_CREATED, vI 1] [iR s_CREATED])) _
      refine st4.trans ?_
      show Steps _ _ _ (T4.setTop (mkF m 27 #[vI p1, vI 0, vR s_CREATED, vI 1] [iI 1])) _
      refine XS.iloadN X4.here hx rfl (hb hby at_27) rfl ?_
      show Steps _ _ _ (T4.setTop (mkF m 28 #[vI p1, vI 0, vR s_CREATED, vI 1] [iI 1, iI 1])) _
      refine XS.icmpNo X4.here hx rfl (hb hby at_28) rfl (teq (by decide : (1 : Int32) = (1 : Int32))).2 ?_
      show Steps _ _ _ (T4.setTop (mkF m 31 #[vI p1, vI 0, vR s_CREATED, vI 1] [])) _
      refine XS.iconst X4.here hx rfl (hb hby at_31) ?_
      show Steps _ _ _ (T4.setTop (mkF m 32 #[vI p1, vI 0, vR s_CREATED, vI 1] [iI 1])) _
      refine XS.goto X4.here hx rfl (pc0 := 32) (pc' := 36) rfl (hb hby at_32) (by decide) (by decide) ?_
      show Steps _ _ _ (T4.setTop (mkF m 36 #[vI p1, vI 0, vR s_CREATED, vI 1] [iI 1])) _
      exact retN X4 hx (t := .boolean) Bd.returns (by simp) (hb hby at_36) hr
    · show Q0 Z p1 s_CREATED s_BLOCKED s_OTP_USED s_REMOVED s_ACTIVE h0 _ T4.heap _
      rw [e4]
      exact ⟨rfl, rfl, rfl⟩
  · obtain ⟨_, _, ⟨T5, L5, k5, n5⟩, -, X5, ⟨Lc5, hQ5, l5, y5, z5⟩, st5⟩ := Jvm.LawKit.callS X0 hx (y := (⟨"com/example/threefold/threefold/protocol/ActivationStatusIsPendingPinLaw", "pick", "(I)Lcom/example/threefold/threefold/protocol/ActivationStatus;"⟩ : MethodName)) hown (mvT hZ (hw _ (List.mem_of_getElem? (i := 1) rfl))) (mvT hZ (hw _ (List.mem_of_getElem? (i := 2) rfl))) (mvT hZ (hw _ (List.mem_of_getElem? (i := 3) rfl))) (mvT hZ (hw _ (List.mem_of_getElem? (i := 4) rfl))) (by decide) (backOf (W := 0) (rm1_1 l Z a0 hw []  s_CREATED s_BLOCKED s_OTP_USED s_REMOVED s_ACTIVE h0 S_CREATED E_CREATED S_BLOCKED E_BLOCKED F_ordinal_BLOCKED F_ordinal_CREATED S_OTP_USED E_OTP_USED F_ordinal_OTP_USED S_REMOVED E_REMOVED F_ordinal_REMOVED S_ACTIVE E_ACTIVE F_ordinal_ACTIVE) hZ (hw _ (List.mem_of_getElem? (i := 4) rfl)) (hw _ (List.mem_of_getElem? (i := 3) rfl)) (by decide) (by decide)) (g := (mkF m 8 #[vI p1, vI 1, .unset, .unset] [iI 1])) rfl (by rw [hml]; rfl) (argsL := [(.int (1 : Int32))]) (rest := []) (lenOf pd_0 rfl) rfl (by show 2 * 0 + _ ≤ _; exact Nat.le_of_eq rfl) (hb hby at_8) (fun _ _ => ⟨rfl, e0, (by decide : 0 + 0 ≤ _), (by decide : 0 + 0 ≤ _)⟩)
    dsimp only [Pt.U, Pt.locs, Pt.cells, Pt.slots] at X5 l5 y5 z5 st5 hQ5
    subst l5 y5 z5
    obtain ⟨rfl, rfl, e5⟩ := hQ5
    try rw [List.append_nil] at X5
    obtain ⟨cq6, kq6, q6a, q6b, q6c⟩ := isOf hZ e5 E_OTP_USED
    obtain ⟨_, _, ⟨T6, L6, k6, n6⟩, -, X6, ⟨Lc6, hQ6, l6, y6, z6⟩, st6⟩ := X5.virtualBack hx (y := (⟨"com/example/threefold/threefold/protocol/ActivationStatus", "isPending", "()Z"⟩ : MethodName)) (z := (⟨"com/example/threefold/threefold/protocol/ActivationStatus", "isPending", "()Z"⟩ : MethodName)) hown (mvT hZ (hw _ (List.mem_of_getElem? (i := 8) rfl))) (mvT hZ (hw _ (List.mem_of_getElem? (i := 9) rfl))) (notFace_of_selects (args := #[]) (mvT hZ (hw _ (List.mem_of_getElem? (i := 11) rfl)))) (mvT hZ (hw _ (List.mem_of_getElem? (i := 11) rfl))) (mvT hZ (hw _ (List.mem_of_getElem? (i := 10) rfl))) (by decide) (backOf (W := 0) (rm2_1 l Z a0 hw []  s_CREATED s_BLOCKED s_OTP_USED s_REMOVED s_ACTIVE h0 S_CREATED E_CREATED S_BLOCKED E_BLOCKED F_ordinal_BLOCKED F_ordinal_CREATED S_OTP_USED E_OTP_USED F_ordinal_OTP_USED S_REMOVED E_REMOVED F_ordinal_REMOVED S_ACTIVE E_ACTIVE F_ordinal_ACTIVE) hZ (hw _ (List.mem_of_getElem? (i := 12) rfl)) (hw _ (List.mem_of_getElem? (i := 6) rfl)) (by decide) (by decide)) q6a q6c (g := (mkF m 24 #[vI p1, vI 1, vR s_OTP_USED, vI 1] [iR s_OTP_USED])) rfl (by rw [hml]; rfl) (Steps.refl _) (argsL := []) (rest := []) (lenOf pd_1 rfl) rfl (by show 2 * 0 + _ ≤ _; exact Nat.le_of_eq rfl) (hb hby at_24) (fun _ _ => ⟨rfl, e5, (by decide : 0 + 0 ≤ _), (by decide : 0 + 0 ≤ _)⟩)
    dsimp only [Pt.U, Pt.locs, Pt.cells, Pt.slots] at X6 l6 y6 z6 st6 hQ6
    subst l6 y6 z6
    obtain ⟨rfl, rfl, e6⟩ := hQ6
    try rw [List.append_nil] at X6
    obtain ⟨fs, hr, hrun, hended, hW, hsame⟩ := X6.leave (v := some (.int (1 : Int32))) (fun h => by rw [Bd.returns] at h; cases h)
    refine ⟨_, _, pre2 _ ?_, hrun, hended, _, _, rfl, ?_, ⟨_, rfl⟩, hW, hsame.mono (by decide) (by decide)⟩
    · show Steps _ _ _ (s₁.setTop (mkF m 7 #[vI p1, vI 1, .unset, .unset] [])) _
      refine XS.iloadN X0.here hx rfl (hb hby at_7) rfl ?_
      show Steps _ _ _ (s₁.setTop (mkF m 8 #[vI p1, vI 1, .unset, .unset] [iI 1])) _
      refine st5 _ ?_
      show Steps _ _ _ (T5.setTop (mkF m 11 #[vI p1, vI 1, .unset, .unset] [iR s_OTP_USED])) _
      refine XS.astoreN X5.here hx rfl (hb hby at_11) rfl rfl (l' := #[vI p1, vI 1, vR s_OTP_USED, .unset]) rfl ?_
      show Steps _ _ _ (T5.setTop (mkF m 12 #[vI p1, vI 1, vR s_OTP_USED, .unset] [])) _
      refine XS.iloadN X5.here hx rfl (hb hby at_12) rfl ?_
      show Steps _ _ _ (T5.setTop (mkF m 13 #[vI p1, vI 1, vR s_OTP_USED, .unset] [iI 1])) _
      refine XS.iconst X5.here hx rfl (hb hby at_13) ?_
      show Steps _ _ _ (T5.setTop (mkF m 14 #[vI p1, vI 1, vR s_OTP_USED, .unset] [iI 1, iI 1])) _
      refine XS.icmpNo X5.here hx rfl (hb hby at_14) rfl (flt (by decide : ¬ ((1 : Int32) < (1 : Int32)))).2.2.1 ?_
      show Steps _ _ _ (T5.setTop (mkF m 17 #[vI p1, vI 1, vR s_OTP_USED, .unset] [])) _
      refine XS.iconst X5.here hx rfl (hb hby at_17) ?_
      show Steps _ _ _ (T5.setTop (mkF m 18 #[vI p1, vI 1, vR s_OTP_USED, .unset] [iI 1])) _
      refine XS.goto X5.here hx rfl (pc0 := 18) (pc' := 22) rfl (hb hby at_18) (by decide) (by decide) ?_
      show Steps _ _ _ (T5.setTop (mkF m 22 #[vI p1, vI 1, vR s_OTP_USED, .unset] [iI 1])) _
      refine XS.istoreN X5.here hx rfl (hb hby at_22) rfl (l' := #[vI p1, vI 1, vR s_OTP_USED, vI 1]) rfl ?_
      show Steps _ _ _ (T5.setTop (mkF m 23 #[vI p1, vI 1, vR s_OTP_USED, vI 1] [])) _
      refine XS.aloadN X5.here hx rfl (hb hby at_23) rfl rfl ?_
      show Steps _ _ _ (T5.setTop (mkF m 24 #[vI p1, vI 1, vR s_OTP_USED, vI 1] [iR s_OTP_USED])) _
      refine st6.trans ?_
      show Steps _ _ _ (T6.setTop (mkF m 27 #[vI p1, vI 1, vR s_OTP_USED, vI 1] [iI 1])) _
      refine XS.iloadN X6.here hx rfl (hb hby at_27) rfl ?_
      show Steps _ _ _ (T6.setTop (mkF m 28 #[vI p1, vI 1, vR s_OTP_USED, vI 1] [iI 1, iI 1])) _
      refine XS.icmpNo X6.here hx rfl (hb hby at_28) rfl (teq (by decide : (1 : Int32) = (1 : Int32))).2 ?_
      show Steps _ _ _ (T6.setTop (mkF m 31 #[vI p1, vI 1, vR s_OTP_USED, vI 1] [])) _
      refine XS.iconst X6.here hx rfl (hb hby at_31) ?_
      show Steps _ _ _ (T6.setTop (mkF m 32 #[vI p1, vI 1, vR s_OTP_USED, vI 1] [iI 1])) _
      refine XS.goto X6.here hx rfl (pc0 := 32) (pc' := 36) rfl (hb hby at_32) (by decide) (by decide) ?_
      show Steps _ _ _ (T6.setTop (mkF m 36 #[vI p1, vI 1, vR s_OTP_USED, vI 1] [iI 1])) _
      exact retN X6 hx (t := .boolean) Bd.returns (by simp) (hb hby at_36) hr
    · show Q0 Z p1 s_CREATED s_BLOCKED s_OTP_USED s_REMOVED s_ACTIVE h0 _ T6.heap _
      rw [e6]
      exact ⟨rfl, rfl, rfl⟩
  · obtain ⟨_, _, ⟨T7, L7, k7, n7⟩, -, X7, ⟨Lc7, hQ7, l7, y7, z7⟩, st7⟩ := Jvm.LawKit.callS X0 hx (y := (⟨"com/example/threefold/threefold/protocol/ActivationStatusIsPendingPinLaw", "pick", "(I)Lcom/example/threefold/threefold/protocol/ActivationStatus;"⟩ : MethodName)) hown (mvT hZ (hw _ (List.mem_of_getElem? (i := 1) rfl))) (mvT hZ (hw _ (List.mem_of_getElem? (i := 2) rfl))) (mvT hZ (hw _ (List.mem_of_getElem? (i := 3) rfl))) (mvT hZ (hw _ (List.mem_of_getElem? (i := 4) rfl))) (by decide) (backOf (W := 0) (rm1_2 l Z a0 hw []  s_CREATED s_BLOCKED s_OTP_USED s_REMOVED s_ACTIVE h0 S_CREATED E_CREATED S_BLOCKED E_BLOCKED F_ordinal_BLOCKED F_ordinal_CREATED S_OTP_USED E_OTP_USED F_ordinal_OTP_USED S_REMOVED E_REMOVED F_ordinal_REMOVED S_ACTIVE E_ACTIVE F_ordinal_ACTIVE) hZ (hw _ (List.mem_of_getElem? (i := 4) rfl)) (hw _ (List.mem_of_getElem? (i := 3) rfl)) (by decide) (by decide)) (g := (mkF m 8 #[vI p1, vI 2, .unset, .unset] [iI 2])) rfl (by rw [hml]; rfl) (argsL := [(.int (2 : Int32))]) (rest := []) (lenOf pd_0 rfl) rfl (by show 2 * 0 + _ ≤ _; exact Nat.le_of_eq rfl) (hb hby at_8) (fun _ _ => ⟨rfl, e0, (by decide : 0 + 0 ≤ _), (by decide : 0 + 0 ≤ _)⟩)
    dsimp only [Pt.U, Pt.locs, Pt.cells, Pt.slots] at X7 l7 y7 z7 st7 hQ7
    subst l7 y7 z7
    obtain ⟨rfl, rfl, e7⟩ := hQ7
    try rw [List.append_nil] at X7
    obtain ⟨cq8, kq8, q8a, q8b, q8c⟩ := isOf hZ e7 E_ACTIVE
    obtain ⟨_, _, ⟨T8, L8, k8, n8⟩, -, X8, ⟨Lc8, hQ8, l8, y8, z8⟩, st8⟩ := X7.virtualBack hx (y := (⟨"com/example/threefold/threefold/protocol/ActivationStatus", "isPending", "()Z"⟩ : MethodName)) (z := (⟨"com/example/threefold/threefold/protocol/ActivationStatus", "isPending", "()Z"⟩ : MethodName)) hown (mvT hZ (hw _ (List.mem_of_getElem? (i := 8) rfl))) (mvT hZ (hw _ (List.mem_of_getElem? (i := 9) rfl))) (notFace_of_selects (args := #[]) (mvT hZ (hw _ (List.mem_of_getElem? (i := 11) rfl)))) (mvT hZ (hw _ (List.mem_of_getElem? (i := 11) rfl))) (mvT hZ (hw _ (List.mem_of_getElem? (i := 10) rfl))) (by decide) (backOf (W := 0) (rm2_2 l Z a0 hw []  s_CREATED s_BLOCKED s_OTP_USED s_REMOVED s_ACTIVE h0 S_CREATED E_CREATED S_BLOCKED E_BLOCKED F_ordinal_BLOCKED F_ordinal_CREATED S_OTP_USED E_OTP_USED F_ordinal_OTP_USED S_REMOVED E_REMOVED F_ordinal_REMOVED S_ACTIVE E_ACTIVE F_ordinal_ACTIVE) hZ (hw _ (List.mem_of_getElem? (i := 12) rfl)) (hw _ (List.mem_of_getElem? (i := 6) rfl)) (by decide) (by decide)) q8a q8c (g := (mkF m 24 #[vI p1, vI 2, vR s_ACTIVE, vI 0] [iR s_ACTIVE])) rfl (by rw [hml]; rfl) (Steps.refl _) (argsL := []) (rest := []) (lenOf pd_1 rfl) rfl (by show 2 * 0 + _ ≤ _; exact Nat.le_of_eq rfl) (hb hby at_24) (fun _ _ => ⟨rfl, e7, (by decide : 0 + 0 ≤ _), (by decide : 0 + 0 ≤ _)⟩)
    dsimp only [Pt.U, Pt.locs, Pt.cells, Pt.slots] at X8 l8 y8 z8 st8 hQ8
    subst l8 y8 z8
    obtain ⟨rfl, rfl, e8⟩ := hQ8
    try rw [List.append_nil] at X8
    obtain ⟨fs, hr, hrun, hended, hW, hsame⟩ := X8.leave (v := some (.int (1 : Int32))) (fun h => by rw [Bd.returns] at h; cases h)
    refine ⟨_, _, pre2 _ ?_, hrun, hended, _, _, rfl, ?_, ⟨_, rfl⟩, hW, hsame.mono (by decide) (by decide)⟩
    · show Steps _ _ _ (s₁.setTop (mkF m 7 #[vI p1, vI 2, .unset, .unset] [])) _
      refine XS.iloadN X0.here hx rfl (hb hby at_7) rfl ?_
      show Steps _ _ _ (s₁.setTop (mkF m 8 #[vI p1, vI 2, .unset, .unset] [iI 2])) _
      refine st7 _ ?_
      show Steps _ _ _ (T7.setTop (mkF m 11 #[vI p1, vI 2, .unset, .unset] [iR s_ACTIVE])) _
      refine XS.astoreN X7.here hx rfl (hb hby at_11) rfl rfl (l' := #[vI p1, vI 2, vR s_ACTIVE, .unset]) rfl ?_
      show Steps _ _ _ (T7.setTop (mkF m 12 #[vI p1, vI 2, vR s_ACTIVE, .unset] [])) _
      refine XS.iloadN X7.here hx rfl (hb hby at_12) rfl ?_
      show Steps _ _ _ (T7.setTop (mkF m 13 #[vI p1, vI 2, vR s_ACTIVE, .unset] [iI 2])) _
      refine XS.iconst X7.here hx rfl (hb hby at_13) ?_
      show Steps _ _ _ (T7.setTop (mkF m 14 #[vI p1, vI 2, vR s_ACTIVE, .unset] [iI 1, iI 2])) _
      refine XS.icmpYes X7.here hx rfl (pc0 := 14) (pc' := 21) rfl (hb hby at_14) rfl (tlt (by decide : (1 : Int32) < (2 : Int32))).2.2.1 (by decide) (by decide) ?_
      show Steps _ _ _ (T7.setTop (mkF m 21 #[vI p1, vI 2, vR s_ACTIVE, .unset] [])) _
      refine XS.iconst X7.here hx rfl (hb hby at_21) ?_
      show Steps _ _ _ (T7.setTop (mkF m 22 #[vI p1, vI 2, vR s_ACTIVE, .unset] [iI 0])) _
      refine XS.istoreN X7.here hx rfl (hb hby at_22) rfl (l' := #[vI p1, vI 2, vR s_ACTIVE, vI 0]) rfl ?_
      show Steps _ _ _ (T7.setTop (mkF m 23 #[vI p1, vI 2, vR s_ACTIVE, vI 0] [])) _
      refine XS.aloadN X7.here hx rfl (hb hby at_23) rfl rfl ?_
      show Steps _ _ _ (T7.setTop (mkF m 24 #[vI p1, vI 2, vR s_ACTIVE, vI 0] [iR s_ACTIVE])) _
      refine st8.trans ?_
      show Steps _ _ _ (T8.setTop (mkF m 27 #[vI p1, vI 2, vR s_ACTIVE, vI 0] [iI 0])) _
      refine XS.iloadN X8.here hx rfl (hb hby at_27) rfl ?_
      show Steps _ _ _ (T8.setTop (mkF m 28 #[vI p1, vI 2, vR s_ACTIVE, vI 0] [iI 0, iI 0])) _
      refine XS.icmpNo X8.here hx rfl (hb hby at_28) rfl (teq (by decide : (0 : Int32) = (0 : Int32))).2 ?_
      show Steps _ _ _ (T8.setTop (mkF m 31 #[vI p1, vI 2, vR s_ACTIVE, vI 0] [])) _
      refine XS.iconst X8.here hx rfl (hb hby at_31) ?_
      show Steps _ _ _ (T8.setTop (mkF m 32 #[vI p1, vI 2, vR s_ACTIVE, vI 0] [iI 1])) _
      refine XS.goto X8.here hx rfl (pc0 := 32) (pc' := 36) rfl (hb hby at_32) (by decide) (by decide) ?_
      show Steps _ _ _ (T8.setTop (mkF m 36 #[vI p1, vI 2, vR s_ACTIVE, vI 0] [iI 1])) _
      exact retN X8 hx (t := .boolean) Bd.returns (by simp) (hb hby at_36) hr
    · show Q0 Z p1 s_CREATED s_BLOCKED s_OTP_USED s_REMOVED s_ACTIVE h0 _ T8.heap _
      rw [e8]
      exact ⟨rfl, rfl, rfl⟩
  · obtain ⟨_, _, ⟨T9, L9, k9, n9⟩, -, X9, ⟨Lc9, hQ9, l9, y9, z9⟩, st9⟩ := Jvm.LawKit.callS X0 hx (y := (⟨"com/example/threefold/threefold/protocol/ActivationStatusIsPendingPinLaw", "pick", "(I)Lcom/example/threefold/threefold/protocol/ActivationStatus;"⟩ : MethodName)) hown (mvT hZ (hw _ (List.mem_of_getElem? (i := 1) rfl))) (mvT hZ (hw _ (List.mem_of_getElem? (i := 2) rfl))) (mvT hZ (hw _ (List.mem_of_getElem? (i := 3) rfl))) (mvT hZ (hw _ (List.mem_of_getElem? (i := 4) rfl))) (by decide) (backOf (W := 0) (rm1_3 l Z a0 hw []  s_CREATED s_BLOCKED s_OTP_USED s_REMOVED s_ACTIVE h0 S_CREATED E_CREATED S_BLOCKED E_BLOCKED F_ordinal_BLOCKED F_ordinal_CREATED S_OTP_USED E_OTP_USED F_ordinal_OTP_USED S_REMOVED E_REMOVED F_ordinal_REMOVED S_ACTIVE E_ACTIVE F_ordinal_ACTIVE) hZ (hw _ (List.mem_of_getElem? (i := 4) rfl)) (hw _ (List.mem_of_getElem? (i := 3) rfl)) (by decide) (by decide)) (g := (mkF m 8 #[vI p1, vI 3, .unset, .unset] [iI 3])) rfl (by rw [hml]; rfl) (argsL := [(.int (3 : Int32))]) (rest := []) (lenOf pd_0 rfl) rfl (by show 2 * 0 + _ ≤ _; exact Nat.le_of_eq rfl) (hb hby at_8) (fun _ _ => ⟨rfl, e0, (by decide : 0 + 0 ≤ _), (by decide : 0 + 0 ≤ _)⟩)
    dsimp only [Pt.U, Pt.locs, Pt.cells, Pt.slots] at X9 l9 y9 z9 st9 hQ9
    subst l9 y9 z9
    obtain ⟨rfl, rfl, e9⟩ := hQ9
    try rw [List.append_nil] at X9
    obtain ⟨cq10, kq10, q10a, q10b, q10c⟩ := isOf hZ e9 E_BLOCKED
    obtain ⟨_, _, ⟨T10, L10, k10, n10⟩, -, X10, ⟨Lc10, hQ10, l10, y10, z10⟩, st10⟩ := X9.virtualBack hx (y := (⟨"com/example/threefold/threefold/protocol/ActivationStatus", "isPending", "()Z"⟩ : MethodName)) (z := (⟨"com/example/threefold/threefold/protocol/ActivationStatus", "isPending", "()Z"⟩ : MethodName)) hown (mvT hZ (hw _ (List.mem_of_getElem? (i := 8) rfl))) (mvT hZ (hw _ (List.mem_of_getElem? (i := 9) rfl))) (notFace_of_selects (args := #[]) (mvT hZ (hw _ (List.mem_of_getElem? (i := 11) rfl)))) (mvT hZ (hw _ (List.mem_of_getElem? (i := 11) rfl))) (mvT hZ (hw _ (List.mem_of_getElem? (i := 10) rfl))) (by decide) (backOf (W := 0) (rm2_3 l Z a0 hw []  s_CREATED s_BLOCKED s_OTP_USED s_REMOVED s_ACTIVE h0 S_CREATED E_CREATED S_BLOCKED E_BLOCKED F_ordinal_BLOCKED F_ordinal_CREATED S_OTP_USED E_OTP_USED F_ordinal_OTP_USED S_REMOVED E_REMOVED F_ordinal_REMOVED S_ACTIVE E_ACTIVE F_ordinal_ACTIVE) hZ (hw _ (List.mem_of_getElem? (i := 12) rfl)) (hw _ (List.mem_of_getElem? (i := 6) rfl)) (by decide) (by decide)) q10a q10c (g := (mkF m 24 #[vI p1, vI 3, vR s_BLOCKED, vI 0] [iR s_BLOCKED])) rfl (by rw [hml]; rfl) (Steps.refl _) (argsL := []) (rest := []) (lenOf pd_1 rfl) rfl (by show 2 * 0 + _ ≤ _; exact Nat.le_of_eq rfl) (hb hby at_24) (fun _ _ => ⟨rfl, e9, (by decide : 0 + 0 ≤ _), (by decide : 0 + 0 ≤ _)⟩)
    dsimp only [Pt.U, Pt.locs, Pt.cells, Pt.slots] at X10 l10 y10 z10 st10 hQ10
    subst l10 y10 z10
    obtain ⟨rfl, rfl, e10⟩ := hQ10
    try rw [List.append_nil] at X10
    obtain ⟨fs, hr, hrun, hended, hW, hsame⟩ := X10.leave (v := some (.int (1 : Int32))) (fun h => by rw [Bd.returns] at h; cases h)
    refine ⟨_, _, pre2 _ ?_, hrun, hended, _, _, rfl, ?_, ⟨_, rfl⟩, hW, hsame.mono (by decide) (by decide)⟩
    · show Steps _ _ _ (s₁.setTop (mkF m 7 #[vI p1, vI 3, .unset, .unset] [])) _
      refine XS.iloadN X0.here hx rfl (hb hby at_7) rfl ?_
      show Steps _ _ _ (s₁.setTop (mkF m 8 #[vI p1, vI 3, .unset, .unset] [iI 3])) _
      refine st9 _ ?_
      show Steps _ _ _ (T9.setTop (mkF m 11 #[vI p1, vI 3, .unset, .unset] [iR s_BLOCKED])) _
      refine XS.astoreN X9.here hx rfl (hb hby at_11) rfl rfl (l' := #[vI p1, vI 3, vR s_BLOCKED, .unset]) rfl ?_
      show Steps _ _ _ (T9.setTop (mkF m 12 #[vI p1, vI 3, vR s_BLOCKED, .unset] [])) _
      refine XS.iloadN X9.here hx rfl (hb hby at_12) rfl ?_
      show Steps _ _ _ (T9.setTop (mkF m 13 #[vI p1, vI 3, vR s_BLOCKED, .unset] [iI 3])) _
      refine XS.iconst X9.here hx rfl (hb hby at_13) ?_
      show Steps _ _ _ (T9.setTop (mkF m 14 #[vI p1, vI 3, vR s_BLOCKED, .unset] [iI 1, iI 3])) _
      refine XS.icmpYes X9.here hx rfl (pc0 := 14) (pc' := 21) rfl (hb hby at_14) rfl (tlt (by decide : (1 : Int32) < (3 : Int32))).2.2.1 (by decide) (by decide) ?_
      show Steps _ _ _ (T9.setTop (mkF m 21 #[vI p1, vI 3, vR s_BLOCKED, .unset] [])) _
      refine XS.iconst X9.here hx rfl (hb hby at_21) ?_
      show Steps _ _ _ (T9.setTop (mkF m 22 #[vI p1, vI 3, vR s_BLOCKED, .unset] [iI 0])) _
      refine XS.istoreN X9.here hx rfl (hb hby at_22) rfl (l' := #[vI p1, vI 3, vR s_BLOCKED, vI 0]) rfl ?_
      show Steps _ _ _ (T9.setTop (mkF m 23 #[vI p1, vI 3, vR s_BLOCKED, vI 0] [])) _
      refine XS.aloadN X9.here hx rfl (hb hby at_23) rfl rfl ?_
      show Steps _ _ _ (T9.setTop (mkF m 24 #[vI p1, vI 3, vR s_BLOCKED, vI 0] [iR s_BLOCKED])) _
      refine st10.trans ?_
      show Steps _ _ _ (T10.setTop (mkF m 27 #[vI p1, vI 3, vR s_BLOCKED, vI 0] [iI 0])) _
      refine XS.iloadN X10.here hx rfl (hb hby at_27) rfl ?_
      show Steps _ _ _ (T10.setTop (mkF m 28 #[vI p1, vI 3, vR s_BLOCKED, vI 0] [iI 0, iI 0])) _
      refine XS.icmpNo X10.here hx rfl (hb hby at_28) rfl (teq (by decide : (0 : Int32) = (0 : Int32))).2 ?_
      show Steps _ _ _ (T10.setTop (mkF m 31 #[vI p1, vI 3, vR s_BLOCKED, vI 0] [])) _
      refine XS.iconst X10.here hx rfl (hb hby at_31) ?_
      show Steps _ _ _ (T10.setTop (mkF m 32 #[vI p1, vI 3, vR s_BLOCKED, vI 0] [iI 1])) _
      refine XS.goto X10.here hx rfl (pc0 := 32) (pc' := 36) rfl (hb hby at_32) (by decide) (by decide) ?_
      show Steps _ _ _ (T10.setTop (mkF m 36 #[vI p1, vI 3, vR s_BLOCKED, vI 0] [iI 1])) _
      exact retN X10 hx (t := .boolean) Bd.returns (by simp) (hb hby at_36) hr
    · show Q0 Z p1 s_CREATED s_BLOCKED s_OTP_USED s_REMOVED s_ACTIVE h0 _ T10.heap _
      rw [e10]
      exact ⟨rfl, rfl, rfl⟩
  · obtain ⟨_, _, ⟨T11, L11, k11, n11⟩, -, X11, ⟨Lc11, hQ11, l11, y11, z11⟩, st11⟩ := Jvm.LawKit.callS X0 hx (y := (⟨"com/example/threefold/threefold/protocol/ActivationStatusIsPendingPinLaw", "pick", "(I)Lcom/example/threefold/threefold/protocol/ActivationStatus;"⟩ : MethodName)) hown (mvT hZ (hw _ (List.mem_of_getElem? (i := 1) rfl))) (mvT hZ (hw _ (List.mem_of_getElem? (i := 2) rfl))) (mvT hZ (hw _ (List.mem_of_getElem? (i := 3) rfl))) (mvT hZ (hw _ (List.mem_of_getElem? (i := 4) rfl))) (by decide) (backOf (W := 0) (rm1_4 l Z a0 hw []  s_CREATED s_BLOCKED s_OTP_USED s_REMOVED s_ACTIVE h0 S_CREATED E_CREATED S_BLOCKED E_BLOCKED F_ordinal_BLOCKED F_ordinal_CREATED S_OTP_USED E_OTP_USED F_ordinal_OTP_USED S_REMOVED E_REMOVED F_ordinal_REMOVED S_ACTIVE E_ACTIVE F_ordinal_ACTIVE) hZ (hw _ (List.mem_of_getElem? (i := 4) rfl)) (hw _ (List.mem_of_getElem? (i := 3) rfl)) (by decide) (by decide)) (g := (mkF m 8 #[vI p1, vI 4, .unset, .unset] [iI 4])) rfl (by rw [hml]; rfl) (argsL := [(.int (4 : Int32))]) (rest := []) (lenOf pd_0 rfl) rfl (by show 2 * 0 + _ ≤ _; exact Nat.le_of_eq rfl) (hb hby at_8) (fun _ _ => ⟨rfl, e0, (by decide : 0 + 0 ≤ _), (by decide : 0 + 0 ≤ _)⟩)
    dsimp only [Pt.U, Pt.locs, Pt.cells, Pt.slots] at X11 l11 y11 z11 st11 hQ11
    subst l11 y11 z11
    obtain ⟨rfl, rfl, e11⟩ := hQ11
    try rw [List.append_nil] at X11
    obtain ⟨cq12, kq12, q12a, q12b, q12c⟩ := isOf hZ e11 E_REMOVED
    obtain ⟨_, _, ⟨T12, L12, k12, n12⟩, -, X12, ⟨Lc12, hQ12, l12, y12, z12⟩, st12⟩ := X11.virtualBack hx (y := (⟨"com/example/threefold/threefold/protocol/ActivationStatus", "isPending", "()Z"⟩ : MethodName)) (z := (⟨"com/example/threefold/threefold/protocol/ActivationStatus", "isPending", "()Z"⟩ : MethodName)) hown (mvT hZ (hw _ (List.mem_of_getElem? (i := 8) rfl))) (mvT hZ (hw _ (List.mem_of_getElem? (i := 9) rfl))) (notFace_of_selects (args := #[]) (mvT hZ (hw _ (List.mem_of_getElem? (i := 11) rfl)))) (mvT hZ (hw _ (List.mem_of_getElem? (i := 11) rfl))) (mvT hZ (hw _ (List.mem_of_getElem? (i := 10) rfl))) (by decide) (backOf (W := 0) (rm2_4 l Z a0 hw []  s_CREATED s_BLOCKED s_OTP_USED s_REMOVED s_ACTIVE h0 S_CREATED E_CREATED S_BLOCKED E_BLOCKED F_ordinal_BLOCKED F_ordinal_CREATED S_OTP_USED E_OTP_USED F_ordinal_OTP_USED S_REMOVED E_REMOVED F_ordinal_REMOVED S_ACTIVE E_ACTIVE F_ordinal_ACTIVE) hZ (hw _ (List.mem_of_getElem? (i := 12) rfl)) (hw _ (List.mem_of_getElem? (i := 6) rfl)) (by decide) (by decide)) q12a q12c (g := (mkF m 24 #[vI p1, vI 4, vR s_REMOVED, vI 0] [iR s_REMOVED])) rfl (by rw [hml]; rfl) (Steps.refl _) (argsL := []) (rest := []) (lenOf pd_1 rfl) rfl (by show 2 * 0 + _ ≤ _; exact Nat.le_of_eq rfl) (hb hby at_24) (fun _ _ => ⟨rfl, e11, (by decide : 0 + 0 ≤ _), (by decide : 0 + 0 ≤ _)⟩)
    dsimp only [Pt.U, Pt.locs, Pt.cells, Pt.slots] at X12 l12 y12 z12 st12 hQ12
    subst l12 y12 z12
    obtain ⟨rfl, rfl, e12⟩ := hQ12
    try rw [List.append_nil] at X12
    obtain ⟨fs, hr, hrun, hended, hW, hsame⟩ := X12.leave (v := some (.int (1 : Int32))) (fun h => by rw [Bd.returns] at h; cases h)
    refine ⟨_, _, pre2 _ ?_, hrun, hended, _, _, rfl, ?_, ⟨_, rfl⟩, hW, hsame.mono (by decide) (by decide)⟩
    · show Steps _ _ _ (s₁.setTop (mkF m 7 #[vI p1, vI 4, .unset, .unset] [])) _
      refine XS.iloadN X0.here hx rfl (hb hby at_7) rfl ?_
      show Steps _ _ _ (s₁.setTop (mkF m 8 #[vI p1, vI 4, .unset, .unset] [iI 4])) _
      refine st11 _ ?_
      show Steps _ _ _ (T11.setTop (mkF m 11 #[vI p1, vI 4, .unset, .unset] [iR s_REMOVED])) _
      refine XS.astoreN X11.here hx rfl (hb hby at_11) rfl rfl (l' := #[vI p1, vI 4, vR s_REMOVED, .unset]) rfl ?_
      show Steps _ _ _ (T11.setTop (mkF m 12 #[vI p1, vI 4, vR s_REMOVED, .unset] [])) _
      refine XS.iloadN X11.here hx rfl (hb hby at_12) rfl ?_
      show Steps _ _ _ (T11.setTop (mkF m 13 #[vI p1, vI 4, vR s_REMOVED, .unset] [iI 4])) _
      refine XS.iconst X11.here hx rfl (hb hby at_13) ?_
      show Steps _ _ _ (T11.setTop (mkF m 14 #[vI p1, vI 4, vR s_REMOVED, .unset] [iI 1, iI 4])) _
      refine XS.icmpYes X11.here hx rfl (pc0 := 14) (pc' := 21) rfl (hb hby at_14) rfl (tlt (by decide : (1 : Int32) < (4 : Int32))).2.2.1 (by decide) (by decide) ?_
      show Steps _ _ _ (T11.setTop (mkF m 21 #[vI p1, vI 4, vR s_REMOVED, .unset] [])) _
      refine XS.iconst X11.here hx rfl (hb hby at_21) ?_
      show Steps _ _ _ (T11.setTop (mkF m 22 #[vI p1, vI 4, vR s_REMOVED, .unset] [iI 0])) _
      refine XS.istoreN X11.here hx rfl (hb hby at_22) rfl (l' := #[vI p1, vI 4, vR s_REMOVED, vI 0]) rfl ?_
      show Steps _ _ _ (T11.setTop (mkF m 23 #[vI p1, vI 4, vR s_REMOVED, vI 0] [])) _
      refine XS.aloadN X11.here hx rfl (hb hby at_23) rfl rfl ?_
      show Steps _ _ _ (T11.setTop (mkF m 24 #[vI p1, vI 4, vR s_REMOVED, vI 0] [iR s_REMOVED])) _
      refine st12.trans ?_
      show Steps _ _ _ (T12.setTop (mkF m 27 #[vI p1, vI 4, vR s_REMOVED, vI 0] [iI 0])) _
      refine XS.iloadN X12.here hx rfl (hb hby at_27) rfl ?_
      show Steps _ _ _ (T12.setTop (mkF m 28 #[vI p1, vI 4, vR s_REMOVED, vI 0] [iI 0, iI 0])) _
      refine XS.icmpNo X12.here hx rfl (hb hby at_28) rfl (teq (by decide : (0 : Int32) = (0 : Int32))).2 ?_
      show Steps _ _ _ (T12.setTop (mkF m 31 #[vI p1, vI 4, vR s_REMOVED, vI 0] [])) _
      refine XS.iconst X12.here hx rfl (hb hby at_31) ?_
      show Steps _ _ _ (T12.setTop (mkF m 32 #[vI p1, vI 4, vR s_REMOVED, vI 0] [iI 1])) _
      refine XS.goto X12.here hx rfl (pc0 := 32) (pc' := 36) rfl (hb hby at_32) (by decide) (by decide) ?_
      show Steps _ _ _ (T12.setTop (mkF m 36 #[vI p1, vI 4, vR s_REMOVED, vI 0] [iI 1])) _
      exact retN X12 hx (t := .boolean) Bd.returns (by simp) (hb hby at_36) hr
    · show Q0 Z p1 s_CREATED s_BLOCKED s_OTP_USED s_REMOVED s_ACTIVE h0 _ T12.heap _
      rw [e12]
      exact ⟨rfl, rfl, rfl⟩
set_option maxRecDepth 65536 in
set_option maxHeartbeats 40000000 in
theorem comes_1 {Post : Tables → Env → Array Value → State → Outcome → State → Prop} (hpost : ∀ tb e args s v u, (limb_1_1.after args s (.returned v) u = true ∧ limb_1_2.after args s (.returned v) u = true ∧ True) → FrameEnd s (.returned v) u (Jvm.fieldLocs frame_1_writes args s ++ Jvm.arrayLocs frame_1_arrays args s ++ Jvm.staticLocs frame_1_statics s) 0 0 → Post tb e args s (.returned v) u) :
    ArmFor flags0 classFile x code maxLocals ret World_1 tables_1 room_1 Calls_1 rest_1 Pre_1 Post := by
  intro l hfl _ _ p e ha hc hk s m args below hf hA hF happ hP
  obtain ⟨hcalls, hrest, hpre⟩ := hP
  obtain ⟨-, -, -, hnamed, -, -, -, hat⟩ := (Spec.applies_iff hf).mp happ
  obtain ⟨hg, hn⟩ := and_e (Cond.before_iff.mp (show (Jvm.Cond.and given_1 narrow_1).before args s = true from hpre))
  obtain ⟨gc, gr0⟩ := and_e hg
  obtain ⟨w0, rfl⟩ : ∃ w0 : Value, args = #[w0] := by
    have hs : args.size = 1 := by simpa [Cond.value, given_1] using gc
    obtain ⟨L⟩ := args
    match L, hs with
    | [w0], _ => exact ⟨w0, rfl⟩
  have hw := fun d (hd : d ∈ tables_1) => atoms_spec (ws := Jvm.Cond.code x code maxLocals ret :: tables_1) hat d (List.mem_cons_of_mem _ hd)
  have hfit : Fit s := fun {y c} hc i hi => by
    obtain ⟨ha, rfl⟩ := Array.getElem?_eq_some_iff.mp hc
    have q := List.all_eq_true.mp ((Array.all_eq_true_iff_forall_mem.mp hF) _ (Array.getElem_mem ha)) i (List.mem_range.mpr hi)
    simpa [Array.getElem?_eq_getElem hi] using q
  obtain ⟨i0, ei0⟩ := is_v gr0
  obtain rfl : w0 = (.int i0) := Option.some.inj ei0
  obtain ⟨u0, t0⟩ := and_e hn
  obtain ⟨u1, t1⟩ := and_e t0
  obtain ⟨u2, t2⟩ := and_e t1
  obtain ⟨u3, t3⟩ := and_e t2
  obtain ⟨u4, t4⟩ := and_e t3
  obtain ⟨u5, t5⟩ := and_e t4
  obtain ⟨u6, t6⟩ := and_e t5
  obtain ⟨u7, t7⟩ := and_e t6
  obtain ⟨u8, t8⟩ := and_e t7
  have u9 := t8
  obtain ⟨s_CREATED, ev_CREATED⟩ := exa_v u0
  have S_CREATED : Sta s s.heap "com/example/threefold/threefold/protocol/ActivationStatus" "CREATED" "Lcom/example/threefold/threefold/protocol/ActivationStatus;" (.ref s_CREATED) := Sta.start ev_CREATED (Or.inr ⟨(hw _ (List.mem_of_getElem? (i := 6) rfl)), (hw _ (List.mem_of_getElem? (i := 7) rfl))⟩)
  have E_CREATED : Exa s s.heap s_CREATED "com/example/threefold/threefold/protocol/ActivationStatus" := Exa.start ev_CREATED u0
  obtain ⟨s_BLOCKED, ev_BLOCKED⟩ := exa_v u1
  have S_BLOCKED : Sta s s.heap "com/example/threefold/threefold/protocol/ActivationStatus" "BLOCKED" "Lcom/example/threefold/threefold/protocol/ActivationStatus;" (.ref s_BLOCKED) := Sta.start ev_BLOCKED (Or.inr ⟨(hw _ (List.mem_of_getElem? (i := 6) rfl)), (hw _ (List.mem_of_getElem? (i := 15) rfl))⟩)
  have E_BLOCKED : Exa s s.heap s_BLOCKED "com/example/threefold/threefold/protocol/ActivationStatus" := Exa.start ev_BLOCKED u1
  obtain ⟨s_OTP_USED, ev_OTP_USED⟩ := exa_v u4
  have S_OTP_USED : Sta s s.heap "com/example/threefold/threefold/protocol/ActivationStatus" "OTP_USED" "Lcom/example/threefold/threefold/protocol/ActivationStatus;" (.ref s_OTP_USED) := Sta.start ev_OTP_USED (Or.inr ⟨(hw _ (List.mem_of_getElem? (i := 6) rfl)), (hw _ (List.mem_of_getElem? (i := 17) rfl))⟩)
  have E_OTP_USED : Exa s s.heap s_OTP_USED "com/example/threefold/threefold/protocol/ActivationStatus" := Exa.start ev_OTP_USED u4
  obtain ⟨s_REMOVED, ev_REMOVED⟩ := exa_v u6
  have S_REMOVED : Sta s s.heap "com/example/threefold/threefold/protocol/ActivationStatus" "REMOVED" "Lcom/example/threefold/threefold/protocol/ActivationStatus;" (.ref s_REMOVED) := Sta.start ev_REMOVED (Or.inr ⟨(hw _ (List.mem_of_getElem? (i := 6) rfl)), (hw _ (List.mem_of_getElem? (i := 20) rfl))⟩)
  have E_REMOVED : Exa s s.heap s_REMOVED "com/example/threefold/threefold/protocol/ActivationStatus" := Exa.start ev_REMOVED u6
  obtain ⟨s_ACTIVE, ev_ACTIVE⟩ := exa_v u8
  have S_ACTIVE : Sta s s.heap "com/example/threefold/threefold/protocol/ActivationStatus" "ACTIVE" "Lcom/example/threefold/threefold/protocol/ActivationStatus;" (.ref s_ACTIVE) := Sta.start ev_ACTIVE (Or.inr ⟨(hw _ (List.mem_of_getElem? (i := 6) rfl)), (hw _ (List.mem_of_getElem? (i := 22) rfl))⟩)
  have E_ACTIVE : Exa s s.heap s_ACTIVE "com/example/threefold/threefold/protocol/ActivationStatus" := Exa.start ev_ACTIVE u8
  have F_ordinal_BLOCKED : Fld s s.heap s_BLOCKED "java/lang/Enum" "ordinal" "I" (.int (3 : Int32)) := own_fldEq ev_BLOCKED u2
  have F_ordinal_CREATED : Fld s s.heap s_CREATED "java/lang/Enum" "ordinal" "I" (.int (0 : Int32)) := own_fldEq ev_CREATED u3
  have F_ordinal_OTP_USED : Fld s s.heap s_OTP_USED "java/lang/Enum" "ordinal" "I" (.int (1 : Int32)) := own_fldEq ev_OTP_USED u5
  have F_ordinal_REMOVED : Fld s s.heap s_REMOVED "java/lang/Enum" "ordinal" "I" (.int (4 : Int32)) := own_fldEq ev_REMOVED u7
  have F_ordinal_ACTIVE : Fld s s.heap s_ACTIVE "java/lang/Enum" "ordinal" "I" (.int (2 : Int32)) := own_fldEq ev_ACTIVE u9
  obtain ⟨n, o, h1, h2, h3, _, L, rfl, Qv, hq⟩ := rm0 l s _ hw tables_1 i0 s_CREATED s_BLOCKED s_OTP_USED s_REMOVED s_ACTIVE s.heap S_CREATED E_CREATED S_BLOCKED E_BLOCKED F_ordinal_BLOCKED F_ordinal_CREATED S_OTP_USED E_OTP_USED F_ordinal_OTP_USED S_REMOVED E_REMOVED F_ordinal_REMOVED S_ACTIVE E_ACTIVE F_ordinal_ACTIVE p e ha hc hk s m _ below hf ((Spec.applies_iff_loose hf).mp happ).1 ⟨rfl, State.Warmed39.refl s, rfl⟩ trivial
  obtain ⟨rfl, rfl, -⟩ := Qv
  have N := Fr.nil s.heap.size
  refine ⟨n, _, h1, h2, h3, hpost _ _ _ _ _ _ ⟨Cond.after_iff.mpr rfl, Cond.after_iff.mpr (eq_i res_at (Term.int_eval (1)) rfl), trivial⟩ ⟨hq.1, hq.2.1, (hq.2.2.sift fun y hy => Or.inr (N y hy)).mono (by decide) (by decide)⟩⟩
theorem main_1_1 : Claimed_1_1 := comes_1 fun _ _ _ _ _ _ h hF => ⟨h.1, hF⟩
theorem main_1_2 : Claimed_1_2 := comes_1 fun _ _ _ _ _ _ h hF => ⟨h.2.1, hF⟩
end Jvm.Pilot.@@N@@
namespace Jvm.Pilot.@@N@@
open Jvm Jvm.ClassFile Sem Op Lib Jvm.Free Jvm.Stand Jvm.Pilot.@@N@@.Jvm.D
/-! MADE BY PROGRAM (witnessworld.py) out of the Statement's table words and the real class files: 12 classes; the members and pool entries that the words name. The judged class is class 1, her method 1. -/
namespace start1
open Jvm.ClassFile
def u (s : String) : CpInfo := .utf8 (stringToUtf16 s)
/-- a pool by its gaps: so many unusable entries, then the entry; so many at the end -/
def gap : Nat → List CpInfo → List CpInfo
  | 0, r => r
  | n + 1, r => .unusable :: gap n r
def poolList (es : List (Nat × CpInfo)) (last : Nat) : List CpInfo := es.foldr (fun e r => gap e.1 (e.2 :: r)) (gap last [])
def pool (es : List (Nat × CpInfo)) (last : Nat) : Array CpInfo := ⟨poolList es last⟩
def fileOf (pool : Array CpInfo) (this : Nat) (attrs : Array Attribute := #[]) (ms : Array MethodInfo := #[]) (fl : Nat := 33) (sup : Nat := 0) (ifs : Array Nat := #[]) (fds : Array FieldInfo := #[]) : ClassFile where
  minorVersion := 0
  majorVersion := 65
  constantPool := pool
  accessFlags := fl
  thisClass := this
  superClass := sup
  interfaces := ifs
  fields := fds
  methods := ms
  attributes := attrs
def plain (name : String) (sup : Option ClassId) : Class where
  name := name
  kind := .ordinary
  loader := none
  accessFlags := 33
  super := sup
  interfaces := #[]
  cf := none
  fields := #[]
  methods := #[]
  instanceTypes := #[]
  staticTypes := #[]
  resolved := #[]
  callSites := []
  init := .initialized
  statics := none
  mirror := none

def pool0 : Array CpInfo := pool [(5, u "<init>"), (0, u "()V"), (1, .class_ 10), (1, u "java/lang/Object")] 113

def k0m0 : Method := { name := "<init>", desc := "()V", sig := { parameters := [], returnType := none }, accessFlags := 1, code := none }
/-- java/lang/Object -/
def k0 : Class := { plain "java/lang/Object" none with
  accessFlags := 33
  interfaces := #[]
  cf := some (fileOf pool0 8 #[] #[{ accessFlags := 1, nameIndex := 5, descriptorIndex := 6, attributes := #[] }] 33 0 #[] #[])
  fields := #[]
  methods := #[k0m0]
  instanceTypes := #[]
  staticTypes := #[]
  resolved := Array.replicate 124 none
  statics := none }

def pool1 : Array CpInfo := pool [(2, .class_ 4), (1, u "java/lang/Object"), (0, u "<init>"), (0, u "()V"), (0, .integer 2147483647), (0, .methodref 9 10), (0, .class_ 11), (0, .nameAndType 12 13), (0, u "com/example/threefold/threefold/protocol/ActivationStatusIsPendingPinLaw"), (0, u "pick"), (0, u "(I)Lcom/example/threefold/threefold/protocol/ActivationStatus;"), (0, .methodref 15 16), (0, .class_ 17), (0, .nameAndType 18 19), (0, u "com/example/threefold/threefold/protocol/ActivationStatus"), (0, u "isPending"), (0, u "()Z"), (0, .fieldref 15 21), (0, .nameAndType 22 23), (0, u "CREATED"), (0, u "Lcom/example/threefold/threefold/protocol/ActivationStatus;"), (0, .fieldref 15 25), (0, .nameAndType 26 23), (0, u "OTP_USED"), (0, .fieldref 15 28), (0, .nameAndType 29 23), (0, u "ACTIVE"), (0, .fieldref 15 31), (0, .nameAndType 32 23), (0, u "BLOCKED"), (0, .fieldref 15 34), (0, .nameAndType 35 23), (0, u "REMOVED"), (2, u "law"), (0, u "(I)Z")] 3

def k1m0 : Method := { name := "<init>", desc := "()V", sig := { parameters := [], returnType := none }, accessFlags := 1, code := none }
def k1c1 : Code := { maxStack := 2, maxLocals := 4, code := code, exceptionTable := #[], attributes := #[] }
def k1m1 : Method := { name := "law", desc := "(I)Z", sig := { parameters := [.int], returnType := some .boolean }, accessFlags := 9, code := some k1c1 }
def k1c2 : Code := { maxStack := 2, maxLocals := 1, code := method_3_code, exceptionTable := #[], attributes := #[] }
def k1m2 : Method := { name := "pick", desc := "(I)Lcom/example/threefold/threefold/protocol/ActivationStatus;", sig := { parameters := [.int], returnType := some (.object "com/example/threefold/threefold/protocol/ActivationStatus") }, accessFlags := 10, code := some k1c2 }
/-- com/example/threefold/threefold/protocol/ActivationStatusIsPendingPinLaw -/
def k1 : Class := { plain "com/example/threefold/threefold/protocol/ActivationStatusIsPendingPinLaw" (some 0) with
  accessFlags := 49
  interfaces := #[]
  cf := some (fileOf pool1 9 #[] #[{ accessFlags := 1, nameIndex := 5, descriptorIndex := 6, attributes := #[] }, { accessFlags := 9, nameIndex := 38, descriptorIndex := 39, attributes := #[] }, { accessFlags := 10, nameIndex := 12, descriptorIndex := 13, attributes := #[] }] 49 2 #[] #[])
  fields := #[]
  methods := #[k1m0, k1m1, k1m2]
  instanceTypes := #[]
  staticTypes := #[]
  resolved := Array.replicate 43 none
  statics := none }

def pool2 : Array CpInfo := pool [(1, .class_ 2), (0, u "java/lang/constant/Constable"), (0, .class_ 4), (0, u "java/lang/Object")] 6

/-- java/lang/constant/Constable -/
def k2 : Class := { plain "java/lang/constant/Constable" (some 0) with
  accessFlags := 1537
  interfaces := #[]
  cf := some (fileOf pool2 1 #[] #[] 1537 3 #[] #[])
  fields := #[]
  methods := #[]
  instanceTypes := #[]
  staticTypes := #[]
  resolved := Array.replicate 11 none
  statics := none }

def pool3 : Array CpInfo := pool [(1, .class_ 2), (0, u "java/lang/Comparable"), (0, .class_ 4), (0, u "java/lang/Object")] 7

/-- java/lang/Comparable -/
def k3 : Class := { plain "java/lang/Comparable" (some 0) with
  accessFlags := 1537
  interfaces := #[]
  cf := some (fileOf pool3 1 #[] #[] 1537 3 #[] #[])
  fields := #[]
  methods := #[]
  instanceTypes := #[]
  staticTypes := #[]
  resolved := Array.replicate 12 none
  statics := none }

def pool4 : Array CpInfo := pool [(1, .class_ 2), (0, u "java/io/Serializable"), (0, .class_ 4), (0, u "java/lang/Object")] 2

/-- java/io/Serializable -/
def k4 : Class := { plain "java/io/Serializable" (some 0) with
  accessFlags := 1537
  interfaces := #[]
  cf := some (fileOf pool4 1 #[] #[] 1537 3 #[] #[])
  fields := #[]
  methods := #[]
  instanceTypes := #[]
  staticTypes := #[]
  resolved := Array.replicate 7 none
  statics := none }

def pool5 : Array CpInfo := pool [(2, .class_ 4), (1, u "java/lang/Enum"), (0, u "name"), (0, u "Ljava/lang/String;"), (2, u "ordinal"), (0, u "I"), (1, .class_ 14), (1, u "java/lang/Object"), (4, u "hash"), (86, .class_ 108), (1, u "java/lang/Enum$EnumDesc"), (2, .class_ 112), (0, u "java/lang/constant/Constable"), (0, .class_ 114), (0, u "java/lang/Comparable"), (0, .class_ 116), (0, u "java/io/Serializable")] 87

/-- java/lang/Enum -/
def k5 : Class := { plain "java/lang/Enum" (some 0) with
  accessFlags := 1057
  interfaces := #[2, 3, 4]
  cf := some (fileOf pool5 2 #[.nestMembers #[106]] #[] 1057 12 #[111, 113, 115] #[{ accessFlags := 18, nameIndex := 5, descriptorIndex := 6, attributes := #[] }, { accessFlags := 18, nameIndex := 9, descriptorIndex := 10, attributes := #[] }, { accessFlags := 2, nameIndex := 19, descriptorIndex := 10, attributes := #[] }])
  fields := #[{ name := "name", type := (.object "java/lang/String"), accessFlags := 18, slot := 0, constantValue := 0 }, { name := "ordinal", type := .int, accessFlags := 18, slot := 1, constantValue := 0 }, { name := "hash", type := .int, accessFlags := 2, slot := 2, constantValue := 0 }]
  methods := #[]
  instanceTypes := #[(.object "java/lang/String"), .int, .int]
  staticTypes := #[]
  resolved := Array.replicate 204 none
  statics := none }

def pool6 : Array CpInfo := pool [(1, .class_ 2), (0, u "com/example/threefold/threefold/protocol/ActivationStatus"), (0, .fieldref 1 4), (0, .nameAndType 5 6), (0, u "CREATED"), (0, u "Lcom/example/threefold/threefold/protocol/ActivationStatus;"), (0, .fieldref 1 8), (0, .nameAndType 9 6), (0, u "OTP_USED"), (2, u "ACTIVE"), (2, u "BLOCKED"), (2, u "REMOVED"), (2, u "$VALUES"), (0, u "[Lcom/example/threefold/threefold/protocol/ActivationStatus;"), (6, .class_ 31), (1, u "java/lang/Enum"), (8, u "blobNumber"), (0, u "B"), (19, u "isPending"), (0, u "()Z")] 7

def k6c0 : Code := { maxStack := 2, maxLocals := 1, code := prog_7_method_4_code, exceptionTable := #[], attributes := #[] }
def k6m0 : Method := { name := "isPending", desc := "()Z", sig := { parameters := [], returnType := some .boolean }, accessFlags := 1, code := some k6c0 }
/-- com/example/threefold/threefold/protocol/ActivationStatus -/
def k6 : Class := { plain "com/example/threefold/threefold/protocol/ActivationStatus" (some 5) with
  accessFlags := 16433
  interfaces := #[]
  cf := some (fileOf pool6 1 #[] #[{ accessFlags := 1, nameIndex := 61, descriptorIndex := 62, attributes := #[] }] 16433 29 #[] #[{ accessFlags := 16409, nameIndex := 5, descriptorIndex := 6, attributes := #[] }, { accessFlags := 16409, nameIndex := 9, descriptorIndex := 6, attributes := #[] }, { accessFlags := 16409, nameIndex := 12, descriptorIndex := 6, attributes := #[] }, { accessFlags := 16409, nameIndex := 15, descriptorIndex := 6, attributes := #[] }, { accessFlags := 16409, nameIndex := 18, descriptorIndex := 6, attributes := #[] }, { accessFlags := 18, nameIndex := 40, descriptorIndex := 41, attributes := #[] }, { accessFlags := 4122, nameIndex := 21, descriptorIndex := 22, attributes := #[] }])
  fields := #[{ name := "CREATED", type := (.object "com/example/threefold/threefold/protocol/ActivationStatus"), accessFlags := 16409, slot := 0, constantValue := 0 }, { name := "OTP_USED", type := (.object "com/example/threefold/threefold/protocol/ActivationStatus"), accessFlags := 16409, slot := 1, constantValue := 0 }, { name := "ACTIVE", type := (.object "com/example/threefold/threefold/protocol/ActivationStatus"), accessFlags := 16409, slot := 2, constantValue := 0 }, { name := "BLOCKED", type := (.object "com/example/threefold/threefold/protocol/ActivationStatus"), accessFlags := 16409, slot := 3, constantValue := 0 }, { name := "REMOVED", type := (.object "com/example/threefold/threefold/protocol/ActivationStatus"), accessFlags := 16409, slot := 4, constantValue := 0 }, { name := "blobNumber", type := .byte, accessFlags := 18, slot := 3, constantValue := 0 }, { name := "$VALUES", type := (.array (.object "com/example/threefold/threefold/protocol/ActivationStatus")), accessFlags := 4122, slot := 5, constantValue := 0 }]
  methods := #[k6m0]
  instanceTypes := #[(.object "java/lang/String"), .int, .int, .byte]
  staticTypes := #[(.object "com/example/threefold/threefold/protocol/ActivationStatus"), (.object "com/example/threefold/threefold/protocol/ActivationStatus"), (.object "com/example/threefold/threefold/protocol/ActivationStatus"), (.object "com/example/threefold/threefold/protocol/ActivationStatus"), (.object "com/example/threefold/threefold/protocol/ActivationStatus"), (.array (.object "com/example/threefold/threefold/protocol/ActivationStatus"))]
  resolved := Array.replicate 70 none
  statics := some 0 }

def pool7 : Array CpInfo := pool [(1, u "java/lang/Cloneable"), (0, .class_ 1), (0, u "java/lang/Object"), (0, .class_ 3)] 3

/-- java/lang/Cloneable -/
def k7 : Class := { plain "java/lang/Cloneable" (some 0) with
  accessFlags := 1537
  interfaces := #[]
  cf := some (fileOf pool7 2 #[] #[] 1537 4 #[] #[])
  fields := #[]
  methods := #[]
  instanceTypes := #[]
  staticTypes := #[]
  resolved := Array.replicate 8 none
  statics := none }

/-- the primitive byte -/
def k8 : Class := { plain "byte" none with kind := .primitive 'B', accessFlags := 0x411 }
/-- [B -/
def k9 : Class := { plain "[B" (some 0) with kind := .array 8 .byte, interfaces := #[7, 4], accessFlags := 1041 }

/-- the primitive int -/
def k10 : Class := { plain "int" none with kind := .primitive 'I', accessFlags := 0x411 }
/-- [I -/
def k11 : Class := { plain "[I" (some 0) with kind := .array 10 .int, interfaces := #[7, 4], accessFlags := 1041 }

def heap : Heap := #[{ cls := 6, slots := #[.ref 1, .ref 3, .ref 5, .ref 2, .ref 4, .null], vm := .statics 6 },
  { cls := 6, slots := #[.null, .int 0, .int 0, .int 0], vm := .none },
  { cls := 6, slots := #[.null, .int 3, .int 0, .int 0], vm := .none },
  { cls := 6, slots := #[.null, .int 1, .int 0, .int 0], vm := .none },
  { cls := 6, slots := #[.null, .int 4, .int 0, .int 0], vm := .none },
  { cls := 6, slots := #[.null, .int 2, .int 0, .int 0], vm := .none }]
def classes : Array Class := #[k0, k1, k2, k3, k4, k5, k6, k7, k8, k9, k10, k11]
def interned : List (Array UInt16 × Addr) := []
def slotsUsed : Nat := 26
def theMethod : MethodId := ⟨1, 1⟩
def args0 : Array Value := #[.int 5]
def aboutOver (below : List Frame) : State where
  vm := { classes := classes, interned := interned.toArray }
  heap := heap
  slotsUsed := slotsUsed
  threads := #[{ frames := .invoking theMethod args0 :: below }]
def below0 : List Frame := [.native { method := ⟨0, 0⟩, args := #[] }]
def about1 : State := aboutOver below0
def p0 : Program := .bare "" "" ""
def e0 : Env := launch0.env 0 0 0
theorem w_frames : about1.frames = Frame.invoking theMethod args0 :: below0 := rfl
set_option maxRecDepth 65536 in
theorem w_args : argsFit about1.vm theMethod args0 = true := by decide +kernel
set_option maxRecDepth 65536 in
theorem w_heap : heapFits about1 = true := by decide +kernel
set_option maxRecDepth 65536 in
theorem w_runnable : about1.curStatus? = some .runnable := by decide +kernel
set_option maxRecDepth 65536 in
theorem w_alone : about1.alone = true := by decide +kernel
set_option maxRecDepth 65536 in
theorem w_named : about1.methodNamed? x = some theMethod := by decide +kernel
set_option maxRecDepth 65536 in
theorem w_hears : about1.hears theMethod below0 = true := by decide +kernel
set_option maxRecDepth 65536 in
theorem w_ripe : about1.ripe theMethod args0 below0 = true := by decide +kernel
theorem w_running : about1.status = .running := rfl
set_option maxRecDepth 65536 in
theorem w_room : about1.hasRoom e0.platform room_1 = true :=
  launch0.hasRoom_least _ room_1 (by decide +kernel) (by decide +kernel) (by decide +kernel) (by decide +kernel) (by decide +kernel) (by decide +kernel)
theorem allAtoms_all (ts : List Jvm.Cond) (a : Array Jvm.Value) (st : Jvm.State) : (allAtoms ts).before a st = ts.all (fun c => c.before a st) := by
  induction ts with
  | nil => rfl
  | cons c t ih =>
    show (Jvm.Cond.and c (allAtoms t)).before a st = _
    rw [Jvm.Cond.before_and, ih, List.all_cons]
def words1 : List Jvm.Cond := Jvm.Cond.code x code maxLocals ret :: tables_1
/-- a 'code' word, met by the world's own term for the bytes: nothing is compared byte by byte -/
theorem code_word {y : MethodName} {bytes : ByteArray} {mx : Nat} {rt : Option FieldType} {a : Array Value} {s : State} {m : MethodId} {meth : Method} {c : Code} (h1 : s.methodNamed? y = some m) (h2 : s.vm.method? m = some meth) (h3 : meth.code = some c) (h4 : c.code = bytes)
    (h5 : (c.maxLocals == mx && c.exceptionTable.isEmpty && decide (c.maxStack ≤ mostOperands) && decide (meth.sig.returnType = rt) && !meth.locks && decide (parseMethodDescriptor y.desc = some meth.sig)) = true) : (Jvm.Cond.code y bytes mx rt).before a s = true := by
  simp only [Bool.and_eq_true, beq_iff_eq, Bool.not_eq_true', decide_eq_true_eq] at h5
  obtain ⟨⟨⟨⟨⟨g1, g2⟩, g3⟩, g4⟩, g5⟩, g6⟩ := h5
  simp [Cond.before, Cond.holds, Cond.value, h1, h2, h3, h4, g1, g2, g3, g4, g5, g6]
def isCode : Jvm.Cond → Bool
  | .code _ _ _ _ => true
  | _ => false
theorem all_split {L : List Jvm.Cond} {P : Jvm.Cond → Bool} (h1 : L.all (fun c => isCode c || P c) = true) (h2 : ∀ c ∈ L.filter isCode, P c = true) : L.all P = true := by
  refine List.all_eq_true.mpr fun c hc => ?_
  have h := List.all_eq_true.mp h1 c hc
  rcases Bool.eq_false_or_eq_true (isCode c) with hi | hi
  · exact h2 c (List.mem_filter.mpr ⟨hc, hi⟩)
  · simpa [hi] using h
set_option maxRecDepth 65536 in
theorem w_c0 : (Jvm.Cond.code x code maxLocals ret).before args0 about1 = true := code_word (m := ⟨1, 1⟩) (meth := k1m1) (c := k1c1) (by decide +kernel) rfl rfl rfl (by decide +kernel)
set_option maxRecDepth 65536 in
theorem w_c1 : (Jvm.Cond.code ({ cls := "com/example/threefold/threefold/protocol/ActivationStatusIsPendingPinLaw", name := "pick", desc := "(I)Lcom/example/threefold/threefold/protocol/ActivationStatus;" } : Jvm.MethodName) method_3_code (1 : Nat) (Option.some (Jvm.ClassFile.FieldType.object "com/example/threefold/threefold/protocol/ActivationStatus"))).before args0 about1 = true := code_word (m := ⟨1, 2⟩) (meth := k1m2) (c := k1c2) (by decide +kernel) rfl rfl rfl (by decide +kernel)
set_option maxRecDepth 65536 in
theorem w_c2 : (Jvm.Cond.code ({ cls := "com/example/threefold/threefold/protocol/ActivationStatus", name := "isPending", desc := "()Z" } : Jvm.MethodName) prog_7_method_4_code (1 : Nat) (Option.some Jvm.ClassFile.FieldType.boolean)).before args0 about1 = true := code_word (m := ⟨6, 0⟩) (meth := k6m0) (c := k6c0) (by decide +kernel) rfl rfl rfl (by decide +kernel)
def codes1 : List Jvm.Cond := [Jvm.Cond.code x code maxLocals ret, Jvm.Cond.code ({ cls := "com/example/threefold/threefold/protocol/ActivationStatusIsPendingPinLaw", name := "pick", desc := "(I)Lcom/example/threefold/threefold/protocol/ActivationStatus;" } : Jvm.MethodName) method_3_code (1 : Nat) (Option.some (Jvm.ClassFile.FieldType.object "com/example/threefold/threefold/protocol/ActivationStatus")), Jvm.Cond.code ({ cls := "com/example/threefold/threefold/protocol/ActivationStatus", name := "isPending", desc := "()Z" } : Jvm.MethodName) prog_7_method_4_code (1 : Nat) (Option.some Jvm.ClassFile.FieldType.boolean)]
set_option maxRecDepth 65536 in
theorem codes_eq : words1.filter isCode = codes1 := rfl
theorem w_codes : ∀ c ∈ words1.filter isCode, c.before args0 about1 = true := by
  rw [codes_eq]
  intro c hc
  simp only [codes1, List.mem_cons, List.not_mem_nil, or_false] at hc
  rcases hc with rfl | rfl | rfl
  · exact w_c0
  · exact w_c1
  · exact w_c2
set_option maxRecDepth 65536 in
theorem w_t1 : words1.all (fun c => isCode c || c.before args0 about1) = true := by decide +kernel
theorem w_tables : (allAtoms (Jvm.Cond.code x code maxLocals ret :: tables_1)).before args0 about1 = true := by
  rw [allAtoms_all]
  show words1.all (fun c => c.before args0 about1) = true
  refine all_split ?_ w_codes
  rw [w_t1]
set_option maxRecDepth 65536 in
theorem w_case : (Jvm.Cond.and given_1 narrow_1).before args0 about1 = true := by decide +kernel
theorem w_applies : (headSpec (Jvm.Cond.code x code maxLocals ret :: tables_1) room_1).applies x e0.platform about1 = true :=
  (Spec.applies_iff w_frames).mpr ⟨w_running, w_runnable, w_alone, w_named, w_hears, w_ripe, w_room, w_tables⟩
theorem atStart : AtStart classFile x code maxLocals ret World_1 tables_1 room_1 Calls_1 rest_1 Pre_1 launch0 p0 e0 about1 theMethod args0 below0 :=
  ⟨lists_1, trivial, launch0.admits_env _ _ _, launch0.least_env, fairChoices_fair.cas, fairChoices_fair.clock, w_frames, w_args, w_heap, w_applies, trivial, trivial, w_case⟩
end start1
theorem witness_1 : WitnessClaimed_1 := ⟨start1.p0, start1.e0, start1.about1, start1.theMethod, start1.args0, start1.below0, start1.atStart⟩
end Jvm.Pilot.@@N@@
