import JvmDerived
import JvmDerived.Pilot.@@N@@Statement
import JvmDerived.Pilot.@@N@@Code
set_option linter.unusedVariables false
set_option linter.unusedSimpArgs false
namespace Jvm.RoadKit
open Sem ClassFile Op Lib Jvm.Stand Jvm.Free Jvm.LawKit
section New
variable {p : Program} {l : Launch} {e : Env} {R : Room} {s : State} {m : MethodId} {args : Array Value} {below : List Frame} {meth : Method} {c : Code} {T : State} {locs : List Loc} {cells slots : Nat}
theorem retI (X : Stand p l e R s m args below meth c T locs cells slots) (hx : p.tables.exec = Jvm.exec) {pc : Nat} {Ls : Array Slot} {z : Int32} {rest : List Value} (hret : meth.sig.returnType = some .int) (hd : decode c.code pc = .ok (.ireturn, 1)) {fs : List Frame}
    (hl : ∀ (f : JFrame) (acts : List Action), f.method = m → f.locked = none → f.entered = [] → (doReturn e (T.setTop f) acts (some (.int z))).1 = T.setFrames fs) : Steps p.tables e below (T.setTop (mkF m pc Ls (.int z :: rest))) (T.setFrames fs) := by
  have hm' : T.vm.method? m = some meth := X.method'
  have hn : narrow .int (.int z) = .int z := rfl
  show Steps p.tables e below (T.setTop { method := m, pc := pc, locals := Ls, stack := _ :: rest, locked := none }) _
  jvm_step X.here [X.here.top, hx, hd, hm', hret, hn]
  first | (intro acts; rw [hl _ acts rfl rfl rfl]) | rw [hl _ _ rfl rfl rfl]
  exact Steps.refl _
abbrev vI (x : Int32) : Slot := .val (.int x)
abbrev vJ (x : Int64) : Slot := .val (.long x)
abbrev vR (x : Addr) : Slot := .val (.ref x)
abbrev iI (x : Int32) : Value := .int x
abbrev iJ (x : Int64) : Value := .long x
abbrev iR (x : Addr) : Value := .ref x
/-- from one frame to another over the same heap -/
def own_Mid (X : Stand p l e R s m args below meth c T locs cells slots) (h : Heap) (F F' : JFrame) : Prop :=
  ∃ T', Stand p l e R s m args below meth c T' locs cells slots ∧ T'.heap = h ∧ ∀ t, Steps p.tables e below (T'.setTop F') t → Steps p.tables e below (T.setTop F) t
end New
end Jvm.RoadKit
namespace Jvm.Pilot.@@N@@
open Jvm Jvm.ClassFile Sem Op Lib Jvm.Free Jvm.Stand Jvm.LawKit Jvm.RoadKit Bundle Jvm.Pilot.@@N@@.Jvm.D
theorem pd_0 : parseMethodDescriptor "()Z" = some ⟨[], some .boolean⟩ := by decide +kernel

theorem own_fldEq {s : State} {args : Array Value} {t : Term} {a : Addr} {C n d : String} {k : Int32} (ht : t.eval args s none [] s = some (.ref a)) (h : (Jvm.Cond.eq (Term.field t C n d) (Term.int k)).value args s none s [] = some true) : Fld s s.heap a C n d (.int k) := by
  obtain ⟨x, y, e1, e2, -, -⟩ := cmp_v (Or.inl h)
  have e3 : (Term.int k).eval args s none [] s = some (.int k) := Term.int_eval k
  obtain rfl : y = .int k := Option.some.inj (e2.symm.trans e3)
  have hx : x = .int k := by
    simp only [Cond.value, e1, e2] at h
    cases x <;> simp at h
    rw [h]
  subst hx
  exact Fld.start ((fld_at ht).symm.trans e1)

theorem own_rem (x y : Int32) (d : Int) (hy : y.toInt = d) (hd : 0 < d) : 0 ≤ ((x &&& 2147483647) % y).toInt ∧ ((x &&& 2147483647) % y).toInt < d := by
  have h0 : 0 ≤ (x &&& 2147483647).toInt := (c_and x 2147483647 (by decide)).1
  rw [(c_irem (x &&& 2147483647) y d hy).1 h0]
  exact ⟨Int.emod_nonneg _ (by omega), Int.emod_lt_of_pos _ hd⟩

theorem own_small7 (v : Int32) (h0 : 0 ≤ v.toInt) (h1 : v.toInt < 7) : v = 0 ∨ v = 1 ∨ v = 2 ∨ v = 3 ∨ v = 4 ∨ v = 5 ∨ v = 6 := by
  have h : v.toInt = 0 ∨ v.toInt = 1 ∨ v.toInt = 2 ∨ v.toInt = 3 ∨ v.toInt = 4 ∨ v.toInt = 5 ∨ v.toInt = 6 := by omega
  rcases h with h | h | h | h | h | h | h
  · exact Or.inl (Int32.toInt_inj.mp (h.trans (by decide)))
  · exact Or.inr (Or.inl (Int32.toInt_inj.mp (h.trans (by decide))))
  · exact Or.inr (Or.inr (Or.inl (Int32.toInt_inj.mp (h.trans (by decide)))))
  · exact Or.inr (Or.inr (Or.inr (Or.inl (Int32.toInt_inj.mp (h.trans (by decide))))))
  · exact Or.inr (Or.inr (Or.inr (Or.inr (Or.inl (Int32.toInt_inj.mp (h.trans (by decide)))))))
  · exact Or.inr (Or.inr (Or.inr (Or.inr (Or.inr (Or.inl (Int32.toInt_inj.mp (h.trans (by decide))))))))
  · exact Or.inr (Or.inr (Or.inr (Or.inr (Or.inr (Or.inr ((Int32.toInt_inj.mp (h.trans (by decide)))))))))

theorem d1_0 : decode prog_102_method_4_code 0 = .ok (.aload_n 0, 1) := by decide +kernel
theorem d1_1 : decode prog_102_method_4_code 1 = .ok (.getstatic 10, 3) := by decide +kernel
theorem d1_4 : decode prog_102_method_4_code 4 = .ok (.if_acmp .eq 10, 3) := by decide +kernel
theorem d1_7 : decode prog_102_method_4_code 7 = .ok (.aload_n 0, 1) := by decide +kernel
theorem d1_8 : decode prog_102_method_4_code 8 = .ok (.getstatic 13, 3) := by decide +kernel
theorem d1_11 : decode prog_102_method_4_code 11 = .ok (.if_acmp .ne 7, 3) := by decide +kernel
theorem d1_18 : decode prog_102_method_4_code 18 = .ok (.iconst 0, 1) := by decide +kernel
theorem d1_19 : decode prog_102_method_4_code 19 = .ok (.ireturn, 1) := by decide +kernel
theorem pn_0 : plainName "com/example/nullwise/nullwise/Value$Type" = true := by first | (simp [plainName, overriddenIn]; done) | decide +kernel
theorem ef_1_0 (m : MethodId) (x0 : Addr) : entryFrame m #[(.ref x0)] 1 = mkF m 0 #[.val (.ref x0)] [] := by first | (simp [entryFrame, mkF, argsToLocals, Value.category]; done) | rfl
def Q1_0 (Z : State) (s_NULL : Addr) (s_INTEGER : Addr) (s_FLOAT : Addr) (s_LIST : Addr) (s_MAP : Addr) (s_STRING : Addr) (s_BOOLEAN : Addr) (h0 : Heap) (v : Option Value) (h : Heap) (L : List Loc) : Prop := v = some (.int (0 : Int32)) ∧ L = [] ∧ h = h0
set_option maxRecDepth 65536 in
set_option maxHeartbeats 40000000 in
theorem rm1_0 (l : Launch) (Z : State) (a0 : Array Value) (hw : ∀ d ∈ tables_1, d.before a0 Z = true) (ws : List Jvm.Cond) (s_NULL : Addr) (s_INTEGER : Addr) (s_FLOAT : Addr) (s_LIST : Addr) (s_MAP : Addr) (s_STRING : Addr) (s_BOOLEAN : Addr) (h0 : Heap) (S_NULL : Sta Z h0 "com/example/nullwise/nullwise/Value$Type" "NULL" "Lcom/example/nullwise/nullwise/Value$Type;" (.ref s_NULL)) (E_NULL : Exa Z h0 s_NULL "com/example/nullwise/nullwise/Value$Type") (S_INTEGER : Sta Z h0 "com/example/nullwise/nullwise/Value$Type" "INTEGER" "Lcom/example/nullwise/nullwise/Value$Type;" (.ref s_INTEGER)) (E_INTEGER : Exa Z h0 s_INTEGER "com/example/nullwise/nullwise/Value$Type") (F_ordinal_NULL : Fld Z h0 s_NULL "java/lang/Enum" "ordinal" "I" (.int (0 : Int32))) (F_ordinal_INTEGER : Fld Z h0 s_INTEGER "java/lang/Enum" "ordinal" "I" (.int (2 : Int32))) (S_FLOAT : Sta Z h0 "com/example/nullwise/nullwise/Value$Type" "FLOAT" "Lcom/example/nullwise/nullwise/Value$Type;" (.ref s_FLOAT)) (E_FLOAT : Exa Z h0 s_FLOAT "com/example/nullwise/nullwise/Value$Type") (F_ordinal_FLOAT : Fld Z h0 s_FLOAT "java/lang/Enum" "ordinal" "I" (.int (3 : Int32))) (S_LIST : Sta Z h0 "com/example/nullwise/nullwise/Value$Type" "LIST" "Lcom/example/nullwise/nullwise/Value$Type;" (.ref s_LIST)) (E_LIST : Exa Z h0 s_LIST "com/example/nullwise/nullwise/Value$Type") (F_ordinal_LIST : Fld Z h0 s_LIST "java/lang/Enum" "ordinal" "I" (.int (5 : Int32))) (S_MAP : Sta Z h0 "com/example/nullwise/nullwise/Value$Type" "MAP" "Lcom/example/nullwise/nullwise/Value$Type;" (.ref s_MAP)) (E_MAP : Exa Z h0 s_MAP "com/example/nullwise/nullwise/Value$Type") (F_ordinal_MAP : Fld Z h0 s_MAP "java/lang/Enum" "ordinal" "I" (.int (6 : Int32))) (S_STRING : Sta Z h0 "com/example/nullwise/nullwise/Value$Type" "STRING" "Lcom/example/nullwise/nullwise/Value$Type;" (.ref s_STRING)) (E_STRING : Exa Z h0 s_STRING "com/example/nullwise/nullwise/Value$Type") (F_ordinal_STRING : Fld Z h0 s_STRING "java/lang/Enum" "ordinal" "I" (.int (4 : Int32))) (S_BOOLEAN : Sta Z h0 "com/example/nullwise/nullwise/Value$Type" "BOOLEAN" "Lcom/example/nullwise/nullwise/Value$Type;" (.ref s_BOOLEAN)) (E_BOOLEAN : Exa Z h0 s_BOOLEAN "com/example/nullwise/nullwise/Value$Type") (F_ordinal_BOOLEAN : Fld Z h0 s_BOOLEAN "java/lang/Enum" "ordinal" "I" (.int (1 : Int32))) :
    MetFree l (⟨"com/example/nullwise/nullwise/Value$Type", "isNumber", "()Z"⟩ : MethodName) (head1 (Jvm.Cond.code (⟨"com/example/nullwise/nullwise/Value$Type", "isNumber", "()Z"⟩ : MethodName) prog_102_method_4_code 1 (some .boolean) :: ws) ({ frames := 0, cells := 0, slots := 0, locals := 0 } : Room)) (fun a U => a = #[(.ref s_NULL)] ∧ Z.Warmed39 U.vm ∧ U.heap = h0) (fun _ _ _ _ _ => True) (fun _ U o U' => ∃ v L, o = .returned v ∧ Q1_0 Z s_NULL s_INTEGER s_FLOAT s_LIST s_MAP s_STRING s_BOOLEAN h0 v U'.heap L ∧ FrameEnd U o U' L ({ frames := 0, cells := 0, slots := 0, locals := 0 } : Room).cells ({ frames := 0, cells := 0, slots := 0, locals := 0 } : Room).slots) := by
  refine MetFree.of_bodySF (plainFor_of_name pn_0) hisR ?_
  intro p e s m args below meth c s₁ Bd hml0 hP hK
  obtain ⟨rfl, hZ, hh⟩ := hP
  have hx := Bd.exec
  have hby := Bd.bytes
  have hml : c.maxLocals = 1 := hml0
  have hown : s.vm.findClass "com/example/nullwise/nullwise/Value$Type" = some m.cls := findClass_of_methodNamed Bd.named
  have hnm := (name_of_methodNamed Bd.named Bd.method).1
  have X0 : Stand p l e ({ frames := 0, cells := 0, slots := 0, locals := 0 } : Room) s m #[(.ref s_NULL)] below meth c s₁ [] 0 0 := Stand.of_body Bd
  have e0 : s₁.heap = h0 := by rw [← hh, Bd.state]; rfl
  have pre0 : ∀ t, Steps p.tables e below (s₁.setTop (mkF m 0 #[.val (.ref s_NULL)] [])) t → Steps p.tables e below (s₁.setTop (entryFrame m #[(.ref s_NULL)] 1)) t := fun t k => castTop (ef_1_0 m s_NULL) k
  have ne_NULL_INTEGER : s_NULL ≠ s_INTEGER := F_ordinal_NULL.ne F_ordinal_INTEGER (by simp)
  have ne_NULL_FLOAT : s_NULL ≠ s_FLOAT := F_ordinal_NULL.ne F_ordinal_FLOAT (by simp)
  have ne_INTEGER_FLOAT : s_INTEGER ≠ s_FLOAT := F_ordinal_INTEGER.ne F_ordinal_FLOAT (by simp)
  have ne_INTEGER_LIST : s_INTEGER ≠ s_LIST := F_ordinal_INTEGER.ne F_ordinal_LIST (by simp)
  have ne_INTEGER_MAP : s_INTEGER ≠ s_MAP := F_ordinal_INTEGER.ne F_ordinal_MAP (by simp)
  have ne_INTEGER_STRING : s_INTEGER ≠ s_STRING := F_ordinal_INTEGER.ne F_ordinal_STRING (by simp)
  have ne_INTEGER_BOOLEAN : s_INTEGER ≠ s_BOOLEAN := F_ordinal_INTEGER.ne F_ordinal_BOOLEAN (by simp)
  have ne_FLOAT_LIST : s_FLOAT ≠ s_LIST := F_ordinal_FLOAT.ne F_ordinal_LIST (by simp)
  have ne_FLOAT_MAP : s_FLOAT ≠ s_MAP := F_ordinal_FLOAT.ne F_ordinal_MAP (by simp)
  have ne_FLOAT_STRING : s_FLOAT ≠ s_STRING := F_ordinal_FLOAT.ne F_ordinal_STRING (by simp)
  have ne_FLOAT_BOOLEAN : s_FLOAT ≠ s_BOOLEAN := F_ordinal_FLOAT.ne F_ordinal_BOOLEAN (by simp)
  obtain ⟨T1, X1, e1, st1⟩ := getS2 X0 hx hZ hown (host := "") (Or.inl (hw _ (List.mem_of_getElem? (i := 9) rfl))) Via.refl e0 S_INTEGER (g := (mkF m 1 #[vR s_NULL] [iR s_NULL])) rfl (hb hby d1_1)
  obtain ⟨T2, X2, e2, st2⟩ := getS2 X1 hx hZ hown (host := "") (Or.inl (hw _ (List.mem_of_getElem? (i := 11) rfl))) Via.refl e1 S_FLOAT (g := (mkF m 8 #[vR s_NULL] [iR s_NULL])) rfl (hb hby d1_8)
  obtain ⟨fs, hr, hrun, hended, hW, hsame⟩ := X2.leave (v := some (.int (0 : Int32))) (fun h => by rw [Bd.returns] at h; cases h)
  refine ⟨_, _, pre0 _ ?_, hrun, hended, _, _, rfl, ?_, ⟨_, rfl⟩, hW, hsame.mono (by decide) (by decide)⟩
  · show Steps _ _ _ (s₁.setTop (mkF m 0 #[vR s_NULL] [])) _
    refine XS.aloadN X0.here hx rfl (hb hby d1_0) rfl rfl ?_
    show Steps _ _ _ (s₁.setTop (mkF m 1 #[vR s_NULL] [iR s_NULL])) _
    refine st1 _ ?_
    show Steps _ _ _ (T1.setTop (mkF m 4 #[vR s_NULL] [iR s_INTEGER, iR s_NULL])) _
    refine Jvm.RoadKit.acmp (g := (mkF m 4 #[vR s_NULL] [iR s_INTEGER, iR s_NULL])) X1 hx rfl rfl rfl (pc0 := 4) (pc' := 7) (same := false) rfl (hb hby d1_4) rfl (decide_eq_false fun q => ne_NULL_INTEGER (Value.ref.inj q)) (by decide) (by decide) ?_
    show Steps _ _ _ (T1.setTop (mkF m 7 #[vR s_NULL] [])) _
    refine XS.aloadN X1.here hx rfl (hb hby d1_7) rfl rfl ?_
    show Steps _ _ _ (T1.setTop (mkF m 8 #[vR s_NULL] [iR s_NULL])) _
    refine st2 _ ?_
    show Steps _ _ _ (T2.setTop (mkF m 11 #[vR s_NULL] [iR s_FLOAT, iR s_NULL])) _
    refine Jvm.RoadKit.acmp (g := (mkF m 11 #[vR s_NULL] [iR s_FLOAT, iR s_NULL])) X2 hx rfl rfl rfl (pc0 := 11) (pc' := 18) (same := false) rfl (hb hby d1_11) rfl (decide_eq_false fun q => ne_NULL_FLOAT (Value.ref.inj q)) (by decide) (by decide) ?_
    show Steps _ _ _ (T2.setTop (mkF m 18 #[vR s_NULL] [])) _
    refine XS.iconst X2.here hx rfl (hb hby d1_18) ?_
    show Steps _ _ _ (T2.setTop (mkF m 19 #[vR s_NULL] [iI 0])) _
    exact retN X2 hx (t := .boolean) Bd.returns (by simp) (hb hby d1_19) hr
  · show Q1_0 Z s_NULL s_INTEGER s_FLOAT s_LIST s_MAP s_STRING s_BOOLEAN h0 _ T2.heap _
    rw [e2]
    exact ⟨rfl, rfl, rfl⟩
theorem ef_1_1 (m : MethodId) (x0 : Addr) : entryFrame m #[(.ref x0)] 1 = mkF m 0 #[.val (.ref x0)] [] := by first | (simp [entryFrame, mkF, argsToLocals, Value.category]; done) | rfl
def Q1_1 (Z : State) (s_NULL : Addr) (s_INTEGER : Addr) (s_FLOAT : Addr) (s_LIST : Addr) (s_MAP : Addr) (s_STRING : Addr) (s_BOOLEAN : Addr) (h0 : Heap) (v : Option Value) (h : Heap) (L : List Loc) : Prop := v = some (.int (0 : Int32)) ∧ L = [] ∧ h = h0
set_option maxRecDepth 65536 in
set_option maxHeartbeats 40000000 in
theorem rm1_1 (l : Launch) (Z : State) (a0 : Array Value) (hw : ∀ d ∈ tables_1, d.before a0 Z = true) (ws : List Jvm.Cond) (s_NULL : Addr) (s_INTEGER : Addr) (s_FLOAT : Addr) (s_LIST : Addr) (s_MAP : Addr) (s_STRING : Addr) (s_BOOLEAN : Addr) (h0 : Heap) (S_NULL : Sta Z h0 "com/example/nullwise/nullwise/Value$Type" "NULL" "Lcom/example/nullwise/nullwise/Value$Type;" (.ref s_NULL)) (E_NULL : Exa Z h0 s_NULL "com/example/nullwise/nullwise/Value$Type") (S_INTEGER : Sta Z h0 "com/example/nullwise/nullwise/Value$Type" "INTEGER" "Lcom/example/nullwise/nullwise/Value$Type;" (.ref s_INTEGER)) (E_INTEGER : Exa Z h0 s_INTEGER "com/example/nullwise/nullwise/Value$Type") (F_ordinal_NULL : Fld Z h0 s_NULL "java/lang/Enum" "ordinal" "I" (.int (0 : Int32))) (F_ordinal_INTEGER : Fld Z h0 s_INTEGER "java/lang/Enum" "ordinal" "I" (.int (2 : Int32))) (S_FLOAT : Sta Z h0 "com/example/nullwise/nullwise/Value$Type" "FLOAT" "Lcom/example/nullwise/nullwise/Value$Type;" (.ref s_FLOAT)) (E_FLOAT : Exa Z h0 s_FLOAT "com/example/nullwise/nullwise/Value$Type") (F_ordinal_FLOAT : Fld Z h0 s_FLOAT "java/lang/Enum" "ordinal" "I" (.int (3 : Int32))) (S_LIST : Sta Z h0 "com/example/nullwise/nullwise/Value$Type" "LIST" "Lcom/example/nullwise/nullwise/Value$Type;" (.ref s_LIST)) (E_LIST : Exa Z h0 s_LIST "com/example/nullwise/nullwise/Value$Type") (F_ordinal_LIST : Fld Z h0 s_LIST "java/lang/Enum" "ordinal" "I" (.int (5 : Int32))) (S_MAP : Sta Z h0 "com/example/nullwise/nullwise/Value$Type" "MAP" "Lcom/example/nullwise/nullwise/Value$Type;" (.ref s_MAP)) (E_MAP : Exa Z h0 s_MAP "com/example/nullwise/nullwise/Value$Type") (F_ordinal_MAP : Fld Z h0 s_MAP "java/lang/Enum" "ordinal" "I" (.int (6 : Int32))) (S_STRING : Sta Z h0 "com/example/nullwise/nullwise/Value$Type" "STRING" "Lcom/example/nullwise/nullwise/Value$Type;" (.ref s_STRING)) (E_STRING : Exa Z h0 s_STRING "com/example/nullwise/nullwise/Value$Type") (F_ordinal_STRING : Fld Z h0 s_STRING "java/lang/Enum" "ordinal" "I" (.int (4 : Int32))) (S_BOOLEAN : Sta Z h0 "com/example/nullwise/nullwise/Value$Type" "BOOLEAN" "Lcom/example/nullwise/nullwise/Value$Type;" (.ref s_BOOLEAN)) (E_BOOLEAN : Exa Z h0 s_BOOLEAN "com/example/nullwise/nullwise/Value$Type") (F_ordinal_BOOLEAN : Fld Z h0 s_BOOLEAN "java/lang/Enum" "ordinal" "I" (.int (1 : Int32))) :
    MetFree l (⟨"com/example/nullwise/nullwise/Value$Type", "isNumber", "()Z"⟩ : MethodName) (head1 (Jvm.Cond.code (⟨"com/example/nullwise/nullwise/Value$Type", "isNumber", "()Z"⟩ : MethodName) prog_102_method_4_code 1 (some .boolean) :: ws) ({ frames := 0, cells := 0, slots := 0, locals := 0 } : Room)) (fun a U => a = #[(.ref s_BOOLEAN)] ∧ Z.Warmed39 U.vm ∧ U.heap = h0) (fun _ _ _ _ _ => True) (fun _ U o U' => ∃ v L, o = .returned v ∧ Q1_1 Z s_NULL s_INTEGER s_FLOAT s_LIST s_MAP s_STRING s_BOOLEAN h0 v U'.heap L ∧ FrameEnd U o U' L ({ frames := 0, cells := 0, slots := 0, locals := 0 } : Room).cells ({ frames := 0, cells := 0, slots := 0, locals := 0 } : Room).slots) := by
  refine MetFree.of_bodySF (plainFor_of_name pn_0) hisR ?_
  intro p e s m args below meth c s₁ Bd hml0 hP hK
  obtain ⟨rfl, hZ, hh⟩ := hP
  have hx := Bd.exec
  have hby := Bd.bytes
  have hml : c.maxLocals = 1 := hml0
  have hown : s.vm.findClass "com/example/nullwise/nullwise/Value$Type" = some m.cls := findClass_of_methodNamed Bd.named
  have hnm := (name_of_methodNamed Bd.named Bd.method).1
  have X0 : Stand p l e ({ frames := 0, cells := 0, slots := 0, locals := 0 } : Room) s m #[(.ref s_BOOLEAN)] below meth c s₁ [] 0 0 := Stand.of_body Bd
  have e0 : s₁.heap = h0 := by rw [← hh, Bd.state]; rfl
  have pre0 : ∀ t, Steps p.tables e below (s₁.setTop (mkF m 0 #[.val (.ref s_BOOLEAN)] [])) t → Steps p.tables e below (s₁.setTop (entryFrame m #[(.ref s_BOOLEAN)] 1)) t := fun t k => castTop (ef_1_1 m s_BOOLEAN) k
  have ne_NULL_INTEGER : s_NULL ≠ s_INTEGER := F_ordinal_NULL.ne F_ordinal_INTEGER (by simp)
  have ne_NULL_FLOAT : s_NULL ≠ s_FLOAT := F_ordinal_NULL.ne F_ordinal_FLOAT (by simp)
  have ne_INTEGER_FLOAT : s_INTEGER ≠ s_FLOAT := F_ordinal_INTEGER.ne F_ordinal_FLOAT (by simp)
  have ne_INTEGER_LIST : s_INTEGER ≠ s_LIST := F_ordinal_INTEGER.ne F_ordinal_LIST (by simp)
  have ne_INTEGER_MAP : s_INTEGER ≠ s_MAP := F_ordinal_INTEGER.ne F_ordinal_MAP (by simp)
  have ne_INTEGER_STRING : s_INTEGER ≠ s_STRING := F_ordinal_INTEGER.ne F_ordinal_STRING (by simp)
  have ne_INTEGER_BOOLEAN : s_INTEGER ≠ s_BOOLEAN := F_ordinal_INTEGER.ne F_ordinal_BOOLEAN (by simp)
  have ne_FLOAT_LIST : s_FLOAT ≠ s_LIST := F_ordinal_FLOAT.ne F_ordinal_LIST (by simp)
  have ne_FLOAT_MAP : s_FLOAT ≠ s_MAP := F_ordinal_FLOAT.ne F_ordinal_MAP (by simp)
  have ne_FLOAT_STRING : s_FLOAT ≠ s_STRING := F_ordinal_FLOAT.ne F_ordinal_STRING (by simp)
  have ne_FLOAT_BOOLEAN : s_FLOAT ≠ s_BOOLEAN := F_ordinal_FLOAT.ne F_ordinal_BOOLEAN (by simp)
  obtain ⟨T1, X1, e1, st1⟩ := getS2 X0 hx hZ hown (host := "") (Or.inl (hw _ (List.mem_of_getElem? (i := 9) rfl))) Via.refl e0 S_INTEGER (g := (mkF m 1 #[vR s_BOOLEAN] [iR s_BOOLEAN])) rfl (hb hby d1_1)
  obtain ⟨T2, X2, e2, st2⟩ := getS2 X1 hx hZ hown (host := "") (Or.inl (hw _ (List.mem_of_getElem? (i := 11) rfl))) Via.refl e1 S_FLOAT (g := (mkF m 8 #[vR s_BOOLEAN] [iR s_BOOLEAN])) rfl (hb hby d1_8)
  obtain ⟨fs, hr, hrun, hended, hW, hsame⟩ := X2.leave (v := some (.int (0 : Int32))) (fun h => by rw [Bd.returns] at h; cases h)
  refine ⟨_, _, pre0 _ ?_, hrun, hended, _, _, rfl, ?_, ⟨_, rfl⟩, hW, hsame.mono (by decide) (by decide)⟩
  · show Steps _ _ _ (s₁.setTop (mkF m 0 #[vR s_BOOLEAN] [])) _
    refine XS.aloadN X0.here hx rfl (hb hby d1_0) rfl rfl ?_
    show Steps _ _ _ (s₁.setTop (mkF m 1 #[vR s_BOOLEAN] [iR s_BOOLEAN])) _
    refine st1 _ ?_
    show Steps _ _ _ (T1.setTop (mkF m 4 #[vR s_BOOLEAN] [iR s_INTEGER, iR s_BOOLEAN])) _
    refine Jvm.RoadKit.acmp (g := (mkF m 4 #[vR s_BOOLEAN] [iR s_INTEGER, iR s_BOOLEAN])) X1 hx rfl rfl rfl (pc0 := 4) (pc' := 7) (same := false) rfl (hb hby d1_4) rfl (decide_eq_false fun q => (Ne.symm ne_INTEGER_BOOLEAN) (Value.ref.inj q)) (by decide) (by decide) ?_
    show Steps _ _ _ (T1.setTop (mkF m 7 #[vR s_BOOLEAN] [])) _
    refine XS.aloadN X1.here hx rfl (hb hby d1_7) rfl rfl ?_
    show Steps _ _ _ (T1.setTop (mkF m 8 #[vR s_BOOLEAN] [iR s_BOOLEAN])) _
    refine st2 _ ?_
    show Steps _ _ _ (T2.setTop (mkF m 11 #[vR s_BOOLEAN] [iR s_FLOAT, iR s_BOOLEAN])) _
    refine Jvm.RoadKit.acmp (g := (mkF m 11 #[vR s_BOOLEAN] [iR s_FLOAT, iR s_BOOLEAN])) X2 hx rfl rfl rfl (pc0 := 11) (pc' := 18) (same := false) rfl (hb hby d1_11) rfl (decide_eq_false fun q => (Ne.symm ne_FLOAT_BOOLEAN) (Value.ref.inj q)) (by decide) (by decide) ?_
    show Steps _ _ _ (T2.setTop (mkF m 18 #[vR s_BOOLEAN] [])) _
    refine XS.iconst X2.here hx rfl (hb hby d1_18) ?_
    show Steps _ _ _ (T2.setTop (mkF m 19 #[vR s_BOOLEAN] [iI 0])) _
    exact retN X2 hx (t := .boolean) Bd.returns (by simp) (hb hby d1_19) hr
  · show Q1_1 Z s_NULL s_INTEGER s_FLOAT s_LIST s_MAP s_STRING s_BOOLEAN h0 _ T2.heap _
    rw [e2]
    exact ⟨rfl, rfl, rfl⟩
theorem d1_14 : decode prog_102_method_4_code 14 = .ok (.iconst 1, 1) := by decide +kernel
theorem d1_15 : decode prog_102_method_4_code 15 = .ok (.goto 4, 3) := by decide +kernel
theorem ef_1_2 (m : MethodId) (x0 : Addr) : entryFrame m #[(.ref x0)] 1 = mkF m 0 #[.val (.ref x0)] [] := by first | (simp [entryFrame, mkF, argsToLocals, Value.category]; done) | rfl
def Q1_2 (Z : State) (s_NULL : Addr) (s_INTEGER : Addr) (s_FLOAT : Addr) (s_LIST : Addr) (s_MAP : Addr) (s_STRING : Addr) (s_BOOLEAN : Addr) (h0 : Heap) (v : Option Value) (h : Heap) (L : List Loc) : Prop := v = some (.int (1 : Int32)) ∧ L = [] ∧ h = h0
set_option maxRecDepth 65536 in
set_option maxHeartbeats 40000000 in
theorem rm1_2 (l : Launch) (Z : State) (a0 : Array Value) (hw : ∀ d ∈ tables_1, d.before a0 Z = true) (ws : List Jvm.Cond) (s_NULL : Addr) (s_INTEGER : Addr) (s_FLOAT : Addr) (s_LIST : Addr) (s_MAP : Addr) (s_STRING : Addr) (s_BOOLEAN : Addr) (h0 : Heap) (S_NULL : Sta Z h0 "com/example/nullwise/nullwise/Value$Type" "NULL" "Lcom/example/nullwise/nullwise/Value$Type;" (.ref s_NULL)) (E_NULL : Exa Z h0 s_NULL "com/example/nullwise/nullwise/Value$Type") (S_INTEGER : Sta Z h0 "com/example/nullwise/nullwise/Value$Type" "INTEGER" "Lcom/example/nullwise/nullwise/Value$Type;" (.ref s_INTEGER)) (E_INTEGER : Exa Z h0 s_INTEGER "com/example/nullwise/nullwise/Value$Type") (F_ordinal_NULL : Fld Z h0 s_NULL "java/lang/Enum" "ordinal" "I" (.int (0 : Int32))) (F_ordinal_INTEGER : Fld Z h0 s_INTEGER "java/lang/Enum" "ordinal" "I" (.int (2 : Int32))) (S_FLOAT : Sta Z h0 "com/example/nullwise/nullwise/Value$Type" "FLOAT" "Lcom/example/nullwise/nullwise/Value$Type;" (.ref s_FLOAT)) (E_FLOAT : Exa Z h0 s_FLOAT "com/example/nullwise/nullwise/Value$Type") (F_ordinal_FLOAT : Fld Z h0 s_FLOAT "java/lang/Enum" "ordinal" "I" (.int (3 : Int32))) (S_LIST : Sta Z h0 "com/example/nullwise/nullwise/Value$Type" "LIST" "Lcom/example/nullwise/nullwise/Value$Type;" (.ref s_LIST)) (E_LIST : Exa Z h0 s_LIST "com/example/nullwise/nullwise/Value$Type") (F_ordinal_LIST : Fld Z h0 s_LIST "java/lang/Enum" "ordinal" "I" (.int (5 : Int32))) (S_MAP : Sta Z h0 "com/example/nullwise/nullwise/Value$Type" "MAP" "Lcom/example/nullwise/nullwise/Value$Type;" (.ref s_MAP)) (E_MAP : Exa Z h0 s_MAP "com/example/nullwise/nullwise/Value$Type") (F_ordinal_MAP : Fld Z h0 s_MAP "java/lang/Enum" "ordinal" "I" (.int (6 : Int32))) (S_STRING : Sta Z h0 "com/example/nullwise/nullwise/Value$Type" "STRING" "Lcom/example/nullwise/nullwise/Value$Type;" (.ref s_STRING)) (E_STRING : Exa Z h0 s_STRING "com/example/nullwise/nullwise/Value$Type") (F_ordinal_STRING : Fld Z h0 s_STRING "java/lang/Enum" "ordinal" "I" (.int (4 : Int32))) (S_BOOLEAN : Sta Z h0 "com/example/nullwise/nullwise/Value$Type" "BOOLEAN" "Lcom/example/nullwise/nullwise/Value$Type;" (.ref s_BOOLEAN)) (E_BOOLEAN : Exa Z h0 s_BOOLEAN "com/example/nullwise/nullwise/Value$Type") (F_ordinal_BOOLEAN : Fld Z h0 s_BOOLEAN "java/lang/Enum" "ordinal" "I" (.int (1 : Int32))) :
    MetFree l (⟨"com/example/nullwise/nullwise/Value$Type", "isNumber", "()Z"⟩ : MethodName) (head1 (Jvm.Cond.code (⟨"com/example/nullwise/nullwise/Value$Type", "isNumber", "()Z"⟩ : MethodName) prog_102_method_4_code 1 (some .boolean) :: ws) ({ frames := 0, cells := 0, slots := 0, locals := 0 } : Room)) (fun a U => a = #[(.ref s_INTEGER)] ∧ Z.Warmed39 U.vm ∧ U.heap = h0) (fun _ _ _ _ _ => True) (fun _ U o U' => ∃ v L, o = .returned v ∧ Q1_2 Z s_NULL s_INTEGER s_FLOAT s_LIST s_MAP s_STRING s_BOOLEAN h0 v U'.heap L ∧ FrameEnd U o U' L ({ frames := 0, cells := 0, slots := 0, locals := 0 } : Room).cells ({ frames := 0, cells := 0, slots := 0, locals := 0 } : Room).slots) := by
  refine MetFree.of_bodySF (plainFor_of_name pn_0) hisR ?_
  intro p e s m args below meth c s₁ Bd hml0 hP hK
  obtain ⟨rfl, hZ, hh⟩ := hP
  have hx := Bd.exec
  have hby := Bd.bytes
  have hml : c.maxLocals = 1 := hml0
  have hown : s.vm.findClass "com/example/nullwise/nullwise/Value$Type" = some m.cls := findClass_of_methodNamed Bd.named
  have hnm := (name_of_methodNamed Bd.named Bd.method).1
  have X0 : Stand p l e ({ frames := 0, cells := 0, slots := 0, locals := 0 } : Room) s m #[(.ref s_INTEGER)] below meth c s₁ [] 0 0 := Stand.of_body Bd
  have e0 : s₁.heap = h0 := by rw [← hh, Bd.state]; rfl
  have pre0 : ∀ t, Steps p.tables e below (s₁.setTop (mkF m 0 #[.val (.ref s_INTEGER)] [])) t → Steps p.tables e below (s₁.setTop (entryFrame m #[(.ref s_INTEGER)] 1)) t := fun t k => castTop (ef_1_2 m s_INTEGER) k
  have ne_NULL_INTEGER : s_NULL ≠ s_INTEGER := F_ordinal_NULL.ne F_ordinal_INTEGER (by simp)
  have ne_NULL_FLOAT : s_NULL ≠ s_FLOAT := F_ordinal_NULL.ne F_ordinal_FLOAT (by simp)
  have ne_INTEGER_FLOAT : s_INTEGER ≠ s_FLOAT := F_ordinal_INTEGER.ne F_ordinal_FLOAT (by simp)
  have ne_INTEGER_LIST : s_INTEGER ≠ s_LIST := F_ordinal_INTEGER.ne F_ordinal_LIST (by simp)
  have ne_INTEGER_MAP : s_INTEGER ≠ s_MAP := F_ordinal_INTEGER.ne F_ordinal_MAP (by simp)
  have ne_INTEGER_STRING : s_INTEGER ≠ s_STRING := F_ordinal_INTEGER.ne F_ordinal_STRING (by simp)
  have ne_INTEGER_BOOLEAN : s_INTEGER ≠ s_BOOLEAN := F_ordinal_INTEGER.ne F_ordinal_BOOLEAN (by simp)
  have ne_FLOAT_LIST : s_FLOAT ≠ s_LIST := F_ordinal_FLOAT.ne F_ordinal_LIST (by simp)
  have ne_FLOAT_MAP : s_FLOAT ≠ s_MAP := F_ordinal_FLOAT.ne F_ordinal_MAP (by simp)
  have ne_FLOAT_STRING : s_FLOAT ≠ s_STRING := F_ordinal_FLOAT.ne F_ordinal_STRING (by simp)
  have ne_FLOAT_BOOLEAN : s_FLOAT ≠ s_BOOLEAN := F_ordinal_FLOAT.ne F_ordinal_BOOLEAN (by simp)
  obtain ⟨T1, X1, e1, st1⟩ := getS2 X0 hx hZ hown (host := "") (Or.inl (hw _ (List.mem_of_getElem? (i := 9) rfl))) Via.refl e0 S_INTEGER (g := (mkF m 1 #[vR s_INTEGER] [iR s_INTEGER])) rfl (hb hby d1_1)
  obtain ⟨fs, hr, hrun, hended, hW, hsame⟩ := X1.leave (v := some (.int (1 : Int32))) (fun h => by rw [Bd.returns] at h; cases h)
  refine ⟨_, _, pre0 _ ?_, hrun, hended, _, _, rfl, ?_, ⟨_, rfl⟩, hW, hsame.mono (by decide) (by decide)⟩
  · show Steps _ _ _ (s₁.setTop (mkF m 0 #[vR s_INTEGER] [])) _
    refine XS.aloadN X0.here hx rfl (hb hby d1_0) rfl rfl ?_
    show Steps _ _ _ (s₁.setTop (mkF m 1 #[vR s_INTEGER] [iR s_INTEGER])) _
    refine st1 _ ?_
    show Steps _ _ _ (T1.setTop (mkF m 4 #[vR s_INTEGER] [iR s_INTEGER, iR s_INTEGER])) _
    refine Jvm.RoadKit.acmp (g := (mkF m 4 #[vR s_INTEGER] [iR s_INTEGER, iR s_INTEGER])) X1 hx rfl rfl rfl (pc0 := 4) (pc' := 14) (same := true) rfl (hb hby d1_4) rfl (decide_eq_true rfl) (by decide) (by decide) ?_
    show Steps _ _ _ (T1.setTop (mkF m 14 #[vR s_INTEGER] [])) _
    refine XS.iconst X1.here hx rfl (hb hby d1_14) ?_
    show Steps _ _ _ (T1.setTop (mkF m 15 #[vR s_INTEGER] [iI 1])) _
    refine XS.goto X1.here hx rfl (pc0 := 15) (pc' := 19) rfl (hb hby d1_15) (by decide) (by decide) ?_
    show Steps _ _ _ (T1.setTop (mkF m 19 #[vR s_INTEGER] [iI 1])) _
    exact retN X1 hx (t := .boolean) Bd.returns (by simp) (hb hby d1_19) hr
  · show Q1_2 Z s_NULL s_INTEGER s_FLOAT s_LIST s_MAP s_STRING s_BOOLEAN h0 _ T1.heap _
    rw [e1]
    exact ⟨rfl, rfl, rfl⟩
theorem ef_1_3 (m : MethodId) (x0 : Addr) : entryFrame m #[(.ref x0)] 1 = mkF m 0 #[.val (.ref x0)] [] := by first | (simp [entryFrame, mkF, argsToLocals, Value.category]; done) | rfl
def Q1_3 (Z : State) (s_NULL : Addr) (s_INTEGER : Addr) (s_FLOAT : Addr) (s_LIST : Addr) (s_MAP : Addr) (s_STRING : Addr) (s_BOOLEAN : Addr) (h0 : Heap) (v : Option Value) (h : Heap) (L : List Loc) : Prop := v = some (.int (1 : Int32)) ∧ L = [] ∧ h = h0
set_option maxRecDepth 65536 in
set_option maxHeartbeats 40000000 in
theorem rm1_3 (l : Launch) (Z : State) (a0 : Array Value) (hw : ∀ d ∈ tables_1, d.before a0 Z = true) (ws : List Jvm.Cond) (s_NULL : Addr) (s_INTEGER : Addr) (s_FLOAT : Addr) (s_LIST : Addr) (s_MAP : Addr) (s_STRING : Addr) (s_BOOLEAN : Addr) (h0 : Heap) (S_NULL : Sta Z h0 "com/example/nullwise/nullwise/Value$Type" "NULL" "Lcom/example/nullwise/nullwise/Value$Type;" (.ref s_NULL)) (E_NULL : Exa Z h0 s_NULL "com/example/nullwise/nullwise/Value$Type") (S_INTEGER : Sta Z h0 "com/example/nullwise/nullwise/Value$Type" "INTEGER" "Lcom/example/nullwise/nullwise/Value$Type;" (.ref s_INTEGER)) (E_INTEGER : Exa Z h0 s_INTEGER "com/example/nullwise/nullwise/Value$Type") (F_ordinal_NULL : Fld Z h0 s_NULL "java/lang/Enum" "ordinal" "I" (.int (0 : Int32))) (F_ordinal_INTEGER : Fld Z h0 s_INTEGER "java/lang/Enum" "ordinal" "I" (.int (2 : Int32))) (S_FLOAT : Sta Z h0 "com/example/nullwise/nullwise/Value$Type" "FLOAT" "Lcom/example/nullwise/nullwise/Value$Type;" (.ref s_FLOAT)) (E_FLOAT : Exa Z h0 s_FLOAT "com/example/nullwise/nullwise/Value$Type") (F_ordinal_FLOAT : Fld Z h0 s_FLOAT "java/lang/Enum" "ordinal" "I" (.int (3 : Int32))) (S_LIST : Sta Z h0 "com/example/nullwise/nullwise/Value$Type" "LIST" "Lcom/example/nullwise/nullwise/Value$Type;" (.ref s_LIST)) (E_LIST : Exa Z h0 s_LIST "com/example/nullwise/nullwise/Value$Type") (F_ordinal_LIST : Fld Z h0 s_LIST "java/lang/Enum" "ordinal" "I" (.int (5 : Int32))) (S_MAP : Sta Z h0 "com/example/nullwise/nullwise/Value$Type" "MAP" "Lcom/example/nullwise/nullwise/Value$Type;" (.ref s_MAP)) (E_MAP : Exa Z h0 s_MAP "com/example/nullwise/nullwise/Value$Type") (F_ordinal_MAP : Fld Z h0 s_MAP "java/lang/Enum" "ordinal" "I" (.int (6 : Int32))) (S_STRING : Sta Z h0 "com/example/nullwise/nullwise/Value$Type" "STRING" "Lcom/example/nullwise/nullwise/Value$Type;" (.ref s_STRING)) (E_STRING : Exa Z h0 s_STRING "com/example/nullwise/nullwise/Value$Type") (F_ordinal_STRING : Fld Z h0 s_STRING "java/lang/Enum" "ordinal" "I" (.int (4 : Int32))) (S_BOOLEAN : Sta Z h0 "com/example/nullwise/nullwise/Value$Type" "BOOLEAN" "Lcom/example/nullwise/nullwise/Value$Type;" (.ref s_BOOLEAN)) (E_BOOLEAN : Exa Z h0 s_BOOLEAN "com/example/nullwise/nullwise/Value$Type") (F_ordinal_BOOLEAN : Fld Z h0 s_BOOLEAN "java/lang/Enum" "ordinal" "I" (.int (1 : Int32))) :
    MetFree l (⟨"com/example/nullwise/nullwise/Value$Type", "isNumber", "()Z"⟩ : MethodName) (head1 (Jvm.Cond.code (⟨"com/example/nullwise/nullwise/Value$Type", "isNumber", "()Z"⟩ : MethodName) prog_102_method_4_code 1 (some .boolean) :: ws) ({ frames := 0, cells := 0, slots := 0, locals := 0 } : Room)) (fun a U => a = #[(.ref s_FLOAT)] ∧ Z.Warmed39 U.vm ∧ U.heap = h0) (fun _ _ _ _ _ => True) (fun _ U o U' => ∃ v L, o = .returned v ∧ Q1_3 Z s_NULL s_INTEGER s_FLOAT s_LIST s_MAP s_STRING s_BOOLEAN h0 v U'.heap L ∧ FrameEnd U o U' L ({ frames := 0, cells := 0, slots := 0, locals := 0 } : Room).cells ({ frames := 0, cells := 0, slots := 0, locals := 0 } : Room).slots) := by
  refine MetFree.of_bodySF (plainFor_of_name pn_0) hisR ?_
  intro p e s m args below meth c s₁ Bd hml0 hP hK
  obtain ⟨rfl, hZ, hh⟩ := hP
  have hx := Bd.exec
  have hby := Bd.bytes
  have hml : c.maxLocals = 1 := hml0
  have hown : s.vm.findClass "com/example/nullwise/nullwise/Value$Type" = some m.cls := findClass_of_methodNamed Bd.named
  have hnm := (name_of_methodNamed Bd.named Bd.method).1
  have X0 : Stand p l e ({ frames := 0, cells := 0, slots := 0, locals := 0 } : Room) s m #[(.ref s_FLOAT)] below meth c s₁ [] 0 0 := Stand.of_body Bd
  have e0 : s₁.heap = h0 := by rw [← hh, Bd.state]; rfl
  have pre0 : ∀ t, Steps p.tables e below (s₁.setTop (mkF m 0 #[.val (.ref s_FLOAT)] [])) t → Steps p.tables e below (s₁.setTop (entryFrame m #[(.ref s_FLOAT)] 1)) t := fun t k => castTop (ef_1_3 m s_FLOAT) k
  have ne_NULL_INTEGER : s_NULL ≠ s_INTEGER := F_ordinal_NULL.ne F_ordinal_INTEGER (by simp)
  have ne_NULL_FLOAT : s_NULL ≠ s_FLOAT := F_ordinal_NULL.ne F_ordinal_FLOAT (by simp)
  have ne_INTEGER_FLOAT : s_INTEGER ≠ s_FLOAT := F_ordinal_INTEGER.ne F_ordinal_FLOAT (by simp)
  have ne_INTEGER_LIST : s_INTEGER ≠ s_LIST := F_ordinal_INTEGER.ne F_ordinal_LIST (by simp)
  have ne_INTEGER_MAP : s_INTEGER ≠ s_MAP := F_ordinal_INTEGER.ne F_ordinal_MAP (by simp)
  have ne_INTEGER_STRING : s_INTEGER ≠ s_STRING := F_ordinal_INTEGER.ne F_ordinal_STRING (by simp)
  have ne_INTEGER_BOOLEAN : s_INTEGER ≠ s_BOOLEAN := F_ordinal_INTEGER.ne F_ordinal_BOOLEAN (by simp)
  have ne_FLOAT_LIST : s_FLOAT ≠ s_LIST := F_ordinal_FLOAT.ne F_ordinal_LIST (by simp)
  have ne_FLOAT_MAP : s_FLOAT ≠ s_MAP := F_ordinal_FLOAT.ne F_ordinal_MAP (by simp)
  have ne_FLOAT_STRING : s_FLOAT ≠ s_STRING := F_ordinal_FLOAT.ne F_ordinal_STRING (by simp)
  have ne_FLOAT_BOOLEAN : s_FLOAT ≠ s_BOOLEAN := F_ordinal_FLOAT.ne F_ordinal_BOOLEAN (by simp)
  obtain ⟨T1, X1, e1, st1⟩ := getS2 X0 hx hZ hown (host := "") (Or.inl (hw _ (List.mem_of_getElem? (i := 9) rfl))) Via.refl e0 S_INTEGER (g := (mkF m 1 #[vR s_FLOAT] [iR s_FLOAT])) rfl (hb hby d1_1)
  obtain ⟨T2, X2, e2, st2⟩ := getS2 X1 hx hZ hown (host := "") (Or.inl (hw _ (List.mem_of_getElem? (i := 11) rfl))) Via.refl e1 S_FLOAT (g := (mkF m 8 #[vR s_FLOAT] [iR s_FLOAT])) rfl (hb hby d1_8)
  obtain ⟨fs, hr, hrun, hended, hW, hsame⟩ := X2.leave (v := some (.int (1 : Int32))) (fun h => by rw [Bd.returns] at h; cases h)
  refine ⟨_, _, pre0 _ ?_, hrun, hended, _, _, rfl, ?_, ⟨_, rfl⟩, hW, hsame.mono (by decide) (by decide)⟩
  · show Steps _ _ _ (s₁.setTop (mkF m 0 #[vR s_FLOAT] [])) _
    refine XS.aloadN X0.here hx rfl (hb hby d1_0) rfl rfl ?_
    show Steps _ _ _ (s₁.setTop (mkF m 1 #[vR s_FLOAT] [iR s_FLOAT])) _
    refine st1 _ ?_
    show Steps _ _ _ (T1.setTop (mkF m 4 #[vR s_FLOAT] [iR s_INTEGER, iR s_FLOAT])) _
    refine Jvm.RoadKit.acmp (g := (mkF m 4 #[vR s_FLOAT] [iR s_INTEGER, iR s_FLOAT])) X1 hx rfl rfl rfl (pc0 := 4) (pc' := 7) (same := false) rfl (hb hby d1_4) rfl (decide_eq_false fun q => (Ne.symm ne_INTEGER_FLOAT) (Value.ref.inj q)) (by decide) (by decide) ?_
    show Steps _ _ _ (T1.setTop (mkF m 7 #[vR s_FLOAT] [])) _
    refine XS.aloadN X1.here hx rfl (hb hby d1_7) rfl rfl ?_
    show Steps _ _ _ (T1.setTop (mkF m 8 #[vR s_FLOAT] [iR s_FLOAT])) _
    refine st2 _ ?_
    show Steps _ _ _ (T2.setTop (mkF m 11 #[vR s_FLOAT] [iR s_FLOAT, iR s_FLOAT])) _
    refine Jvm.RoadKit.acmp (g := (mkF m 11 #[vR s_FLOAT] [iR s_FLOAT, iR s_FLOAT])) X2 hx rfl rfl rfl (pc0 := 11) (pc' := 14) (same := true) rfl (hb hby d1_11) rfl (decide_eq_true rfl) (by decide) (by decide) ?_
    show Steps _ _ _ (T2.setTop (mkF m 14 #[vR s_FLOAT] [])) _
    refine XS.iconst X2.here hx rfl (hb hby d1_14) ?_
    show Steps _ _ _ (T2.setTop (mkF m 15 #[vR s_FLOAT] [iI 1])) _
    refine XS.goto X2.here hx rfl (pc0 := 15) (pc' := 19) rfl (hb hby d1_15) (by decide) (by decide) ?_
    show Steps _ _ _ (T2.setTop (mkF m 19 #[vR s_FLOAT] [iI 1])) _
    exact retN X2 hx (t := .boolean) Bd.returns (by simp) (hb hby d1_19) hr
  · show Q1_3 Z s_NULL s_INTEGER s_FLOAT s_LIST s_MAP s_STRING s_BOOLEAN h0 _ T2.heap _
    rw [e2]
    exact ⟨rfl, rfl, rfl⟩
theorem ef_1_4 (m : MethodId) (x0 : Addr) : entryFrame m #[(.ref x0)] 1 = mkF m 0 #[.val (.ref x0)] [] := by first | (simp [entryFrame, mkF, argsToLocals, Value.category]; done) | rfl
def Q1_4 (Z : State) (s_NULL : Addr) (s_INTEGER : Addr) (s_FLOAT : Addr) (s_LIST : Addr) (s_MAP : Addr) (s_STRING : Addr) (s_BOOLEAN : Addr) (h0 : Heap) (v : Option Value) (h : Heap) (L : List Loc) : Prop := v = some (.int (0 : Int32)) ∧ L = [] ∧ h = h0
set_option maxRecDepth 65536 in
set_option maxHeartbeats 40000000 in
theorem rm1_4 (l : Launch) (Z : State) (a0 : Array Value) (hw : ∀ d ∈ tables_1, d.before a0 Z = true) (ws : List Jvm.Cond) (s_NULL : Addr) (s_INTEGER : Addr) (s_FLOAT : Addr) (s_LIST : Addr) (s_MAP : Addr) (s_STRING : Addr) (s_BOOLEAN : Addr) (h0 : Heap) (S_NULL : Sta Z h0 "com/example/nullwise/nullwise/Value$Type" "NULL" "Lcom/example/nullwise/nullwise/Value$Type;" (.ref s_NULL)) (E_NULL : Exa Z h0 s_NULL "com/example/nullwise/nullwise/Value$Type") (S_INTEGER : Sta Z h0 "com/example/nullwise/nullwise/Value$Type" "INTEGER" "Lcom/example/nullwise/nullwise/Value$Type;" (.ref s_INTEGER)) (E_INTEGER : Exa Z h0 s_INTEGER "com/example/nullwise/nullwise/Value$Type") (F_ordinal_NULL : Fld Z h0 s_NULL "java/lang/Enum" "ordinal" "I" (.int (0 : Int32))) (F_ordinal_INTEGER : Fld Z h0 s_INTEGER "java/lang/Enum" "ordinal" "I" (.int (2 : Int32))) (S_FLOAT : Sta Z h0 "com/example/nullwise/nullwise/Value$Type" "FLOAT" "Lcom/example/nullwise/nullwise/Value$Type;" (.ref s_FLOAT)) (E_FLOAT : Exa Z h0 s_FLOAT "com/example/nullwise/nullwise/Value$Type") (F_ordinal_FLOAT : Fld Z h0 s_FLOAT "java/lang/Enum" "ordinal" "I" (.int (3 : Int32))) (S_LIST : Sta Z h0 "com/example/nullwise/nullwise/Value$Type" "LIST" "Lcom/example/nullwise/nullwise/Value$Type;" (.ref s_LIST)) (E_LIST : Exa Z h0 s_LIST "com/example/nullwise/nullwise/Value$Type") (F_ordinal_LIST : Fld Z h0 s_LIST "java/lang/Enum" "ordinal" "I" (.int (5 : Int32))) (S_MAP : Sta Z h0 "com/example/nullwise/nullwise/Value$Type" "MAP" "Lcom/example/nullwise/nullwise/Value$Type;" (.ref s_MAP)) (E_MAP : Exa Z h0 s_MAP "com/example/nullwise/nullwise/Value$Type") (F_ordinal_MAP : Fld Z h0 s_MAP "java/lang/Enum" "ordinal" "I" (.int (6 : Int32))) (S_STRING : Sta Z h0 "com/example/nullwise/nullwise/Value$Type" "STRING" "Lcom/example/nullwise/nullwise/Value$Type;" (.ref s_STRING)) (E_STRING : Exa Z h0 s_STRING "com/example/nullwise/nullwise/Value$Type") (F_ordinal_STRING : Fld Z h0 s_STRING "java/lang/Enum" "ordinal" "I" (.int (4 : Int32))) (S_BOOLEAN : Sta Z h0 "com/example/nullwise/nullwise/Value$Type" "BOOLEAN" "Lcom/example/nullwise/nullwise/Value$Type;" (.ref s_BOOLEAN)) (E_BOOLEAN : Exa Z h0 s_BOOLEAN "com/example/nullwise/nullwise/Value$Type") (F_ordinal_BOOLEAN : Fld Z h0 s_BOOLEAN "java/lang/Enum" "ordinal" "I" (.int (1 : Int32))) :
    MetFree l (⟨"com/example/nullwise/nullwise/Value$Type", "isNumber", "()Z"⟩ : MethodName) (head1 (Jvm.Cond.code (⟨"com/example/nullwise/nullwise/Value$Type", "isNumber", "()Z"⟩ : MethodName) prog_102_method_4_code 1 (some .boolean) :: ws) ({ frames := 0, cells := 0, slots := 0, locals := 0 } : Room)) (fun a U => a = #[(.ref s_STRING)] ∧ Z.Warmed39 U.vm ∧ U.heap = h0) (fun _ _ _ _ _ => True) (fun _ U o U' => ∃ v L, o = .returned v ∧ Q1_4 Z s_NULL s_INTEGER s_FLOAT s_LIST s_MAP s_STRING s_BOOLEAN h0 v U'.heap L ∧ FrameEnd U o U' L ({ frames := 0, cells := 0, slots := 0, locals := 0 } : Room).cells ({ frames := 0, cells := 0, slots := 0, locals := 0 } : Room).slots) := by
  refine MetFree.of_bodySF (plainFor_of_name pn_0) hisR ?_
  intro p e s m args below meth c s₁ Bd hml0 hP hK
  obtain ⟨rfl, hZ, hh⟩ := hP
  have hx := Bd.exec
  have hby := Bd.bytes
  have hml : c.maxLocals = 1 := hml0
  have hown : s.vm.findClass "com/example/nullwise/nullwise/Value$Type" = some m.cls := findClass_of_methodNamed Bd.named
  have hnm := (name_of_methodNamed Bd.named Bd.method).1
  have X0 : Stand p l e ({ frames := 0, cells := 0, slots := 0, locals := 0 } : Room) s m #[(.ref s_STRING)] below meth c s₁ [] 0 0 := Stand.of_body Bd
  have e0 : s₁.heap = h0 := by rw [← hh, Bd.state]; rfl
  have pre0 : ∀ t, Steps p.tables e below (s₁.setTop (mkF m 0 #[.val (.ref s_STRING)] [])) t → Steps p.tables e below (s₁.setTop (entryFrame m #[(.ref s_STRING)] 1)) t := fun t k => castTop (ef_1_4 m s_STRING) k
  have ne_NULL_INTEGER : s_NULL ≠ s_INTEGER := F_ordinal_NULL.ne F_ordinal_INTEGER (by simp)
  have ne_NULL_FLOAT : s_NULL ≠ s_FLOAT := F_ordinal_NULL.ne F_ordinal_FLOAT (by simp)
  have ne_INTEGER_FLOAT : s_INTEGER ≠ s_FLOAT := F_ordinal_INTEGER.ne F_ordinal_FLOAT (by simp)
  have ne_INTEGER_LIST : s_INTEGER ≠ s_LIST := F_ordinal_INTEGER.ne F_ordinal_LIST (by simp)
  have ne_INTEGER_MAP : s_INTEGER ≠ s_MAP := F_ordinal_INTEGER.ne F_ordinal_MAP (by simp)
  have ne_INTEGER_STRING : s_INTEGER ≠ s_STRING := F_ordinal_INTEGER.ne F_ordinal_STRING (by simp)
  have ne_INTEGER_BOOLEAN : s_INTEGER ≠ s_BOOLEAN := F_ordinal_INTEGER.ne F_ordinal_BOOLEAN (by simp)
  have ne_FLOAT_LIST : s_FLOAT ≠ s_LIST := F_ordinal_FLOAT.ne F_ordinal_LIST (by simp)
  have ne_FLOAT_MAP : s_FLOAT ≠ s_MAP := F_ordinal_FLOAT.ne F_ordinal_MAP (by simp)
  have ne_FLOAT_STRING : s_FLOAT ≠ s_STRING := F_ordinal_FLOAT.ne F_ordinal_STRING (by simp)
  have ne_FLOAT_BOOLEAN : s_FLOAT ≠ s_BOOLEAN := F_ordinal_FLOAT.ne F_ordinal_BOOLEAN (by simp)
  obtain ⟨T1, X1, e1, st1⟩ := getS2 X0 hx hZ hown (host := "") (Or.inl (hw _ (List.mem_of_getElem? (i := 9) rfl))) Via.refl e0 S_INTEGER (g := (mkF m 1 #[vR s_STRING] [iR s_STRING])) rfl (hb hby d1_1)
  obtain ⟨T2, X2, e2, st2⟩ := getS2 X1 hx hZ hown (host := "") (Or.inl (hw _ (List.mem_of_getElem? (i := 11) rfl))) Via.refl e1 S_FLOAT (g := (mkF m 8 #[vR s_STRING] [iR s_STRING])) rfl (hb hby d1_8)
  obtain ⟨fs, hr, hrun, hended, hW, hsame⟩ := X2.leave (v := some (.int (0 : Int32))) (fun h => by rw [Bd.returns] at h; cases h)
  refine ⟨_, _, pre0 _ ?_, hrun, hended, _, _, rfl, ?_, ⟨_, rfl⟩, hW, hsame.mono (by decide) (by decide)⟩
  · show Steps _ _ _ (s₁.setTop (mkF m 0 #[vR s_STRING] [])) _
    refine XS.aloadN X0.here hx rfl (hb hby d1_0) rfl rfl ?_
    show Steps _ _ _ (s₁.setTop (mkF m 1 #[vR s_STRING] [iR s_STRING])) _
    refine st1 _ ?_
    show Steps _ _ _ (T1.setTop (mkF m 4 #[vR s_STRING] [iR s_INTEGER, iR s_STRING])) _
    refine Jvm.RoadKit.acmp (g := (mkF m 4 #[vR s_STRING] [iR s_INTEGER, iR s_STRING])) X1 hx rfl rfl rfl (pc0 := 4) (pc' := 7) (same := false) rfl (hb hby d1_4) rfl (decide_eq_false fun q => (Ne.symm ne_INTEGER_STRING) (Value.ref.inj q)) (by decide) (by decide) ?_
    show Steps _ _ _ (T1.setTop (mkF m 7 #[vR s_STRING] [])) _
    refine XS.aloadN X1.here hx rfl (hb hby d1_7) rfl rfl ?_
    show Steps _ _ _ (T1.setTop (mkF m 8 #[vR s_STRING] [iR s_STRING])) _
    refine st2 _ ?_
    show Steps _ _ _ (T2.setTop (mkF m 11 #[vR s_STRING] [iR s_FLOAT, iR s_STRING])) _
    refine Jvm.RoadKit.acmp (g := (mkF m 11 #[vR s_STRING] [iR s_FLOAT, iR s_STRING])) X2 hx rfl rfl rfl (pc0 := 11) (pc' := 18) (same := false) rfl (hb hby d1_11) rfl (decide_eq_false fun q => (Ne.symm ne_FLOAT_STRING) (Value.ref.inj q)) (by decide) (by decide) ?_
    show Steps _ _ _ (T2.setTop (mkF m 18 #[vR s_STRING] [])) _
    refine XS.iconst X2.here hx rfl (hb hby d1_18) ?_
    show Steps _ _ _ (T2.setTop (mkF m 19 #[vR s_STRING] [iI 0])) _
    exact retN X2 hx (t := .boolean) Bd.returns (by simp) (hb hby d1_19) hr
  · show Q1_4 Z s_NULL s_INTEGER s_FLOAT s_LIST s_MAP s_STRING s_BOOLEAN h0 _ T2.heap _
    rw [e2]
    exact ⟨rfl, rfl, rfl⟩
theorem ef_1_5 (m : MethodId) (x0 : Addr) : entryFrame m #[(.ref x0)] 1 = mkF m 0 #[.val (.ref x0)] [] := by first | (simp [entryFrame, mkF, argsToLocals, Value.category]; done) | rfl
def Q1_5 (Z : State) (s_NULL : Addr) (s_INTEGER : Addr) (s_FLOAT : Addr) (s_LIST : Addr) (s_MAP : Addr) (s_STRING : Addr) (s_BOOLEAN : Addr) (h0 : Heap) (v : Option Value) (h : Heap) (L : List Loc) : Prop := v = some (.int (0 : Int32)) ∧ L = [] ∧ h = h0
set_option maxRecDepth 65536 in
set_option maxHeartbeats 40000000 in
theorem rm1_5 (l : Launch) (Z : State) (a0 : Array Value) (hw : ∀ d ∈ tables_1, d.before a0 Z = true) (ws : List Jvm.Cond) (s_NULL : Addr) (s_INTEGER : Addr) (s_FLOAT : Addr) (s_LIST : Addr) (s_MAP : Addr) (s_STRING : Addr) (s_BOOLEAN : Addr) (h0 : Heap) (S_NULL : Sta Z h0 "com/example/nullwise/nullwise/Value$Type" "NULL" "Lcom/example/nullwise/nullwise/Value$Type;" (.ref s_NULL)) (E_NULL : Exa Z h0 s_NULL "com/example/nullwise/nullwise/Value$Type") (S_INTEGER : Sta Z h0 "com/example/nullwise/nullwise/Value$Type" "INTEGER" "Lcom/example/nullwise/nullwise/Value$Type;" (.ref s_INTEGER)) (E_INTEGER : Exa Z h0 s_INTEGER "com/example/nullwise/nullwise/Value$Type") (F_ordinal_NULL : Fld Z h0 s_NULL "java/lang/Enum" "ordinal" "I" (.int (0 : Int32))) (F_ordinal_INTEGER : Fld Z h0 s_INTEGER "java/lang/Enum" "ordinal" "I" (.int (2 : Int32))) (S_FLOAT : Sta Z h0 "com/example/nullwise/nullwise/Value$Type" "FLOAT" "Lcom/example/nullwise/nullwise/Value$Type;" (.ref s_FLOAT)) (E_FLOAT : Exa Z h0 s_FLOAT "com/example/nullwise/nullwise/Value$Type") (F_ordinal_FLOAT : Fld Z h0 s_FLOAT "java/lang/Enum" "ordinal" "I" (.int (3 : Int32))) (S_LIST : Sta Z h0 "com/example/nullwise/nullwise/Value$Type" "LIST" "Lcom/example/nullwise/nullwise/Value$Type;" (.ref s_LIST)) (E_LIST : Exa Z h0 s_LIST "com/example/nullwise/nullwise/Value$Type") (F_ordinal_LIST : Fld Z h0 s_LIST "java/lang/Enum" "ordinal" "I" (.int (5 : Int32))) (S_MAP : Sta Z h0 "com/example/nullwise/nullwise/Value$Type" "MAP" "Lcom/example/nullwise/nullwise/Value$Type;" (.ref s_MAP)) (E_MAP : Exa Z h0 s_MAP "com/example/nullwise/nullwise/Value$Type") (F_ordinal_MAP : Fld Z h0 s_MAP "java/lang/Enum" "ordinal" "I" (.int (6 : Int32))) (S_STRING : Sta Z h0 "com/example/nullwise/nullwise/Value$Type" "STRING" "Lcom/example/nullwise/nullwise/Value$Type;" (.ref s_STRING)) (E_STRING : Exa Z h0 s_STRING "com/example/nullwise/nullwise/Value$Type") (F_ordinal_STRING : Fld Z h0 s_STRING "java/lang/Enum" "ordinal" "I" (.int (4 : Int32))) (S_BOOLEAN : Sta Z h0 "com/example/nullwise/nullwise/Value$Type" "BOOLEAN" "Lcom/example/nullwise/nullwise/Value$Type;" (.ref s_BOOLEAN)) (E_BOOLEAN : Exa Z h0 s_BOOLEAN "com/example/nullwise/nullwise/Value$Type") (F_ordinal_BOOLEAN : Fld Z h0 s_BOOLEAN "java/lang/Enum" "ordinal" "I" (.int (1 : Int32))) :
    MetFree l (⟨"com/example/nullwise/nullwise/Value$Type", "isNumber", "()Z"⟩ : MethodName) (head1 (Jvm.Cond.code (⟨"com/example/nullwise/nullwise/Value$Type", "isNumber", "()Z"⟩ : MethodName) prog_102_method_4_code 1 (some .boolean) :: ws) ({ frames := 0, cells := 0, slots := 0, locals := 0 } : Room)) (fun a U => a = #[(.ref s_LIST)] ∧ Z.Warmed39 U.vm ∧ U.heap = h0) (fun _ _ _ _ _ => True) (fun _ U o U' => ∃ v L, o = .returned v ∧ Q1_5 Z s_NULL s_INTEGER s_FLOAT s_LIST s_MAP s_STRING s_BOOLEAN h0 v U'.heap L ∧ FrameEnd U o U' L ({ frames := 0, cells := 0, slots := 0, locals := 0 } : Room).cells ({ frames := 0, cells := 0, slots := 0, locals := 0 } : Room).slots) := by
  refine MetFree.of_bodySF (plainFor_of_name pn_0) hisR ?_
  intro p e s m args below meth c s₁ Bd hml0 hP hK
  obtain ⟨rfl, hZ, hh⟩ := hP
  have hx := Bd.exec
  have hby := Bd.bytes
  have hml : c.maxLocals = 1 := hml0
  have hown : s.vm.findClass "com/example/nullwise/nullwise/Value$Type" = some m.cls := findClass_of_methodNamed Bd.named
  have hnm := (name_of_methodNamed Bd.named Bd.method).1
  have X0 : Stand p l e ({ frames := 0, cells := 0, slots := 0, locals := 0 } : Room) s m #[(.ref s_LIST)] below meth c s₁ [] 0 0 := Stand.of_body Bd
  have e0 : s₁.heap = h0 := by rw [← hh, Bd.state]; rfl
  have pre0 : ∀ t, Steps p.tables e below (s₁.setTop (mkF m 0 #[.val (.ref s_LIST)] [])) t → Steps p.tables e below (s₁.setTop (entryFrame m #[(.ref s_LIST)] 1)) t := fun t k => castTop (ef_1_5 m s_LIST) k
  have ne_NULL_INTEGER : s_NULL ≠ s_INTEGER := F_ordinal_NULL.ne F_ordinal_INTEGER (by simp)
  have ne_NULL_FLOAT : s_NULL ≠ s_FLOAT := F_ordinal_NULL.ne F_ordinal_FLOAT (by simp)
  have ne_INTEGER_FLOAT : s_INTEGER ≠ s_FLOAT := F_ordinal_INTEGER.ne F_ordinal_FLOAT (by simp)
  have ne_INTEGER_LIST : s_INTEGER ≠ s_LIST := F_ordinal_INTEGER.ne F_ordinal_LIST (by simp)
  have ne_INTEGER_MAP : s_INTEGER ≠ s_MAP := F_ordinal_INTEGER.ne F_ordinal_MAP (by simp)
  have ne_INTEGER_STRING : s_INTEGER ≠ s_STRING := F_ordinal_INTEGER.ne F_ordinal_STRING (by simp)
  have ne_INTEGER_BOOLEAN : s_INTEGER ≠ s_BOOLEAN := F_ordinal_INTEGER.ne F_ordinal_BOOLEAN (by simp)
  have ne_FLOAT_LIST : s_FLOAT ≠ s_LIST := F_ordinal_FLOAT.ne F_ordinal_LIST (by simp)
  have ne_FLOAT_MAP : s_FLOAT ≠ s_MAP := F_ordinal_FLOAT.ne F_ordinal_MAP (by simp)
  have ne_FLOAT_STRING : s_FLOAT ≠ s_STRING := F_ordinal_FLOAT.ne F_ordinal_STRING (by simp)
  have ne_FLOAT_BOOLEAN : s_FLOAT ≠ s_BOOLEAN := F_ordinal_FLOAT.ne F_ordinal_BOOLEAN (by simp)
  obtain ⟨T1, X1, e1, st1⟩ := getS2 X0 hx hZ hown (host := "") (Or.inl (hw _ (List.mem_of_getElem? (i := 9) rfl))) Via.refl e0 S_INTEGER (g := (mkF m 1 #[vR s_LIST] [iR s_LIST])) rfl (hb hby d1_1)
  obtain ⟨T2, X2, e2, st2⟩ := getS2 X1 hx hZ hown (host := "") (Or.inl (hw _ (List.mem_of_getElem? (i := 11) rfl))) Via.refl e1 S_FLOAT (g := (mkF m 8 #[vR s_LIST] [iR s_LIST])) rfl (hb hby d1_8)
  obtain ⟨fs, hr, hrun, hended, hW, hsame⟩ := X2.leave (v := some (.int (0 : Int32))) (fun h => by rw [Bd.returns] at h; cases h)
  refine ⟨_, _, pre0 _ ?_, hrun, hended, _, _, rfl, ?_, ⟨_, rfl⟩, hW, hsame.mono (by decide) (by decide)⟩
  · show Steps _ _ _ (s₁.setTop (mkF m 0 #[vR s_LIST] [])) _
    refine XS.aloadN X0.here hx rfl (hb hby d1_0) rfl rfl ?_
    show Steps _ _ _ (s₁.setTop (mkF m 1 #[vR s_LIST] [iR s_LIST])) _
    refine st1 _ ?_
    show Steps _ _ _ (T1.setTop (mkF m 4 #[vR s_LIST] [iR s_INTEGER, iR s_LIST])) _
    refine Jvm.RoadKit.acmp (g := (mkF m 4 #[vR s_LIST] [iR s_INTEGER, iR s_LIST])) X1 hx rfl rfl rfl (pc0 := 4) (pc' := 7) (same := false) rfl (hb hby d1_4) rfl (decide_eq_false fun q => (Ne.symm ne_INTEGER_LIST) (Value.ref.inj q)) (by decide) (by decide) ?_
    show Steps _ _ _ (T1.setTop (mkF m 7 #[vR s_LIST] [])) _
    refine XS.aloadN X1.here hx rfl (hb hby d1_7) rfl rfl ?_
    show Steps _ _ _ (T1.setTop (mkF m 8 #[vR s_LIST] [iR s_LIST])) _
    refine st2 _ ?_
    show Steps _ _ _ (T2.setTop (mkF m 11 #[vR s_LIST] [iR s_FLOAT, iR s_LIST])) _
    refine Jvm.RoadKit.acmp (g := (mkF m 11 #[vR s_LIST] [iR s_FLOAT, iR s_LIST])) X2 hx rfl rfl rfl (pc0 := 11) (pc' := 18) (same := false) rfl (hb hby d1_11) rfl (decide_eq_false fun q => (Ne.symm ne_FLOAT_LIST) (Value.ref.inj q)) (by decide) (by decide) ?_
    show Steps _ _ _ (T2.setTop (mkF m 18 #[vR s_LIST] [])) _
    refine XS.iconst X2.here hx rfl (hb hby d1_18) ?_
    show Steps _ _ _ (T2.setTop (mkF m 19 #[vR s_LIST] [iI 0])) _
    exact retN X2 hx (t := .boolean) Bd.returns (by simp) (hb hby d1_19) hr
  · show Q1_5 Z s_NULL s_INTEGER s_FLOAT s_LIST s_MAP s_STRING s_BOOLEAN h0 _ T2.heap _
    rw [e2]
    exact ⟨rfl, rfl, rfl⟩
theorem ef_1_6 (m : MethodId) (x0 : Addr) : entryFrame m #[(.ref x0)] 1 = mkF m 0 #[.val (.ref x0)] [] := by first | (simp [entryFrame, mkF, argsToLocals, Value.category]; done) | rfl
def Q1_6 (Z : State) (s_NULL : Addr) (s_INTEGER : Addr) (s_FLOAT : Addr) (s_LIST : Addr) (s_MAP : Addr) (s_STRING : Addr) (s_BOOLEAN : Addr) (h0 : Heap) (v : Option Value) (h : Heap) (L : List Loc) : Prop := v = some (.int (0 : Int32)) ∧ L = [] ∧ h = h0
set_option maxRecDepth 65536 in
set_option maxHeartbeats 40000000 in
theorem rm1_6 (l : Launch) (Z : State) (a0 : Array Value) (hw : ∀ d ∈ tables_1, d.before a0 Z = true) (ws : List Jvm.Cond) (s_NULL : Addr) (s_INTEGER : Addr) (s_FLOAT : Addr) (s_LIST : Addr) (s_MAP : Addr) (s_STRING : Addr) (s_BOOLEAN : Addr) (h0 : Heap) (S_NULL : Sta Z h0 "com/example/nullwise/nullwise/Value$Type" "NULL" "Lcom/example/nullwise/nullwise/Value$Type;" (.ref s_NULL)) (E_NULL : Exa Z h0 s_NULL "com/example/nullwise/nullwise/Value$Type") (S_INTEGER : Sta Z h0 "com/example/nullwise/nullwise/Value$Type" "INTEGER" "Lcom/example/nullwise/nullwise/Value$Type;" (.ref s_INTEGER)) (E_INTEGER : Exa Z h0 s_INTEGER "com/example/nullwise/nullwise/Value$Type") (F_ordinal_NULL : Fld Z h0 s_NULL "java/lang/Enum" "ordinal" "I" (.int (0 : Int32))) (F_ordinal_INTEGER : Fld Z h0 s_INTEGER "java/lang/Enum" "ordinal" "I" (.int (2 : Int32))) (S_FLOAT : Sta Z h0 "com/example/nullwise/nullwise/Value$Type" "FLOAT" "Lcom/example/nullwise/nullwise/Value$Type;" (.ref s_FLOAT)) (E_FLOAT : Exa Z h0 s_FLOAT "com/example/nullwise/nullwise/Value$Type") (F_ordinal_FLOAT : Fld Z h0 s_FLOAT "java/lang/Enum" "ordinal" "I" (.int (3 : Int32))) (S_LIST : Sta Z h0 "com/example/nullwise/nullwise/Value$Type" "LIST" "Lcom/example/nullwise/nullwise/Value$Type;" (.ref s_LIST)) (E_LIST : Exa Z h0 s_LIST "com/example/nullwise/nullwise/Value$Type") (F_ordinal_LIST : Fld Z h0 s_LIST "java/lang/Enum" "ordinal" "I" (.int (5 : Int32))) (S_MAP : Sta Z h0 "com/example/nullwise/nullwise/Value$Type" "MAP" "Lcom/example/nullwise/nullwise/Value$Type;" (.ref s_MAP)) (E_MAP : Exa Z h0 s_MAP "com/example/nullwise/nullwise/Value$Type") (F_ordinal_MAP : Fld Z h0 s_MAP "java/lang/Enum" "ordinal" "I" (.int (6 : Int32))) (S_STRING : Sta Z h0 "com/example/nullwise/nullwise/Value$Type" "STRING" "Lcom/example/nullwise/nullwise/Value$Type;" (.ref s_STRING)) (E_STRING : Exa Z h0 s_STRING "com/example/nullwise/nullwise/Value$Type") (F_ordinal_STRING : Fld Z h0 s_STRING "java/lang/Enum" "ordinal" "I" (.int (4 : Int32))) (S_BOOLEAN : Sta Z h0 "com/example/nullwise/nullwise/Value$Type" "BOOLEAN" "Lcom/example/nullwise/nullwise/Value$Type;" (.ref s_BOOLEAN)) (E_BOOLEAN : Exa Z h0 s_BOOLEAN "com/example/nullwise/nullwise/Value$Type") (F_ordinal_BOOLEAN : Fld Z h0 s_BOOLEAN "java/lang/Enum" "ordinal" "I" (.int (1 : Int32))) :
    MetFree l (⟨"com/example/nullwise/nullwise/Value$Type", "isNumber", "()Z"⟩ : MethodName) (head1 (Jvm.Cond.code (⟨"com/example/nullwise/nullwise/Value$Type", "isNumber", "()Z"⟩ : MethodName) prog_102_method_4_code 1 (some .boolean) :: ws) ({ frames := 0, cells := 0, slots := 0, locals := 0 } : Room)) (fun a U => a = #[(.ref s_MAP)] ∧ Z.Warmed39 U.vm ∧ U.heap = h0) (fun _ _ _ _ _ => True) (fun _ U o U' => ∃ v L, o = .returned v ∧ Q1_6 Z s_NULL s_INTEGER s_FLOAT s_LIST s_MAP s_STRING s_BOOLEAN h0 v U'.heap L ∧ FrameEnd U o U' L ({ frames := 0, cells := 0, slots := 0, locals := 0 } : Room).cells ({ frames := 0, cells := 0, slots := 0, locals := 0 } : Room).slots) := by
  refine MetFree.of_bodySF (plainFor_of_name pn_0) hisR ?_
  intro p e s m args below meth c s₁ Bd hml0 hP hK
  obtain ⟨rfl, hZ, hh⟩ := hP
  have hx := Bd.exec
  have hby := Bd.bytes
  have hml : c.maxLocals = 1 := hml0
  have hown : s.vm.findClass "com/example/nullwise/nullwise/Value$Type" = some m.cls := findClass_of_methodNamed Bd.named
  have hnm := (name_of_methodNamed Bd.named Bd.method).1
  have X0 : Stand p l e ({ frames := 0, cells := 0, slots := 0, locals := 0 } : Room) s m #[(.ref s_MAP)] below meth c s₁ [] 0 0 := Stand.of_body Bd
  have e0 : s₁.heap = h0 := by rw [← hh, Bd.state]; rfl
  have pre0 : ∀ t, Steps p.tables e below (s₁.setTop (mkF m 0 #[.val (.ref s_MAP)] [])) t → Steps p.tables e below (s₁.setTop (entryFrame m #[(.ref s_MAP)] 1)) t := fun t k => castTop (ef_1_6 m s_MAP) k
  have ne_NULL_INTEGER : s_NULL ≠ s_INTEGER := F_ordinal_NULL.ne F_ordinal_INTEGER (by simp)
  have ne_NULL_FLOAT : s_NULL ≠ s_FLOAT := F_ordinal_NULL.ne F_ordinal_FLOAT (by simp)
  have ne_INTEGER_FLOAT : s_INTEGER ≠ s_FLOAT := F_ordinal_INTEGER.ne F_ordinal_FLOAT (by simp)
  have ne_INTEGER_LIST : s_INTEGER ≠ s_LIST := F_ordinal_INTEGER.ne F_ordinal_LIST (by simp)
  have ne_INTEGER_MAP : s_INTEGER ≠ s_MAP := F_ordinal_INTEGER.ne F_ordinal_MAP (by simp)
  have ne_INTEGER_STRING : s_INTEGER ≠ s_STRING := F_ordinal_INTEGER.ne F_ordinal_STRING (by simp)
  have ne_INTEGER_BOOLEAN : s_INTEGER ≠ s_BOOLEAN := F_ordinal_INTEGER.ne F_ordinal_BOOLEAN (by simp)
  have ne_FLOAT_LIST : s_FLOAT ≠ s_LIST := F_ordinal_FLOAT.ne F_ordinal_LIST (by simp)
  have ne_FLOAT_MAP : s_FLOAT ≠ s_MAP := F_ordinal_FLOAT.ne F_ordinal_MAP (by simp)
  have ne_FLOAT_STRING : s_FLOAT ≠ s_STRING := F_ordinal_FLOAT.ne F_ordinal_STRING (by simp)
  have ne_FLOAT_BOOLEAN : s_FLOAT ≠ s_BOOLEAN := F_ordinal_FLOAT.ne F_ordinal_BOOLEAN (by simp)
  obtain ⟨T1, X1, e1, st1⟩ := getS2 X0 hx hZ hown (host := "") (Or.inl (hw _ (List.mem_of_getElem? (i := 9) rfl))) Via.refl e0 S_INTEGER (g := (mkF m 1 #[vR s_MAP] [iR s_MAP])) rfl (hb hby d1_1)
  obtain ⟨T2, X2, e2, st2⟩ := getS2 X1 hx hZ hown (host := "") (Or.inl (hw _ (List.mem_of_getElem? (i := 11) rfl))) Via.refl e1 S_FLOAT (g := (mkF m 8 #[vR s_MAP] [iR s_MAP])) rfl (hb hby d1_8)
  obtain ⟨fs, hr, hrun, hended, hW, hsame⟩ := X2.leave (v := some (.int (0 : Int32))) (fun h => by rw [Bd.returns] at h; cases h)
  refine ⟨_, _, pre0 _ ?_, hrun, hended, _, _, rfl, ?_, ⟨_, rfl⟩, hW, hsame.mono (by decide) (by decide)⟩
  · show Steps _ _ _ (s₁.setTop (mkF m 0 #[vR s_MAP] [])) _
    refine XS.aloadN X0.here hx rfl (hb hby d1_0) rfl rfl ?_
    show Steps _ _ _ (s₁.setTop (mkF m 1 #[vR s_MAP] [iR s_MAP])) _
    refine st1 _ ?_
    show Steps _ _ _ (T1.setTop (mkF m 4 #[vR s_MAP] [iR s_INTEGER, iR s_MAP])) _
    refine Jvm.RoadKit.acmp (g := (mkF m 4 #[vR s_MAP] [iR s_INTEGER, iR s_MAP])) X1 hx rfl rfl rfl (pc0 := 4) (pc' := 7) (same := false) rfl (hb hby d1_4) rfl (decide_eq_false fun q => (Ne.symm ne_INTEGER_MAP) (Value.ref.inj q)) (by decide) (by decide) ?_
    show Steps _ _ _ (T1.setTop (mkF m 7 #[vR s_MAP] [])) _
    refine XS.aloadN X1.here hx rfl (hb hby d1_7) rfl rfl ?_
    show Steps _ _ _ (T1.setTop (mkF m 8 #[vR s_MAP] [iR s_MAP])) _
    refine st2 _ ?_
    show Steps _ _ _ (T2.setTop (mkF m 11 #[vR s_MAP] [iR s_FLOAT, iR s_MAP])) _
    refine Jvm.RoadKit.acmp (g := (mkF m 11 #[vR s_MAP] [iR s_FLOAT, iR s_MAP])) X2 hx rfl rfl rfl (pc0 := 11) (pc' := 18) (same := false) rfl (hb hby d1_11) rfl (decide_eq_false fun q => (Ne.symm ne_FLOAT_MAP) (Value.ref.inj q)) (by decide) (by decide) ?_
    show Steps _ _ _ (T2.setTop (mkF m 18 #[vR s_MAP] [])) _
    refine XS.iconst X2.here hx rfl (hb hby d1_18) ?_
    show Steps _ _ _ (T2.setTop (mkF m 19 #[vR s_MAP] [iI 0])) _
    exact retN X2 hx (t := .boolean) Bd.returns (by simp) (hb hby d1_19) hr
  · show Q1_6 Z s_NULL s_INTEGER s_FLOAT s_LIST s_MAP s_STRING s_BOOLEAN h0 _ T2.heap _
    rw [e2]
    exact ⟨rfl, rfl, rfl⟩
theorem pn_1 : plainName "com/example/nullwise/nullwise/TypeIsNumberPinLaw" = true := by first | (simp [plainName, overriddenIn]; done) | decide +kernel
theorem ef_0 (m : MethodId) (x0 : Int32) : entryFrame m #[(.int x0)] maxLocals = mkF m 0 #[.val (.int x0), .unset, .unset, .unset] [] := by first | (simp [entryFrame, mkF, argsToLocals, Value.category, maxLocals]; done) | rfl
def Q0 (Z : State) (p1 : Int32) (s_NULL : Addr) (s_INTEGER : Addr) (s_FLOAT : Addr) (s_LIST : Addr) (s_MAP : Addr) (s_STRING : Addr) (s_BOOLEAN : Addr) (h0 : Heap) (v : Option Value) (h : Heap) (L : List Loc) : Prop := v = some (.int (1 : Int32)) ∧ L = [] ∧ h = h0
set_option maxRecDepth 65536 in
set_option maxHeartbeats 40000000 in
theorem rm0 (l : Launch) (Z : State) (a0 : Array Value) (hw : ∀ d ∈ tables_1, d.before a0 Z = true) (ws : List Jvm.Cond) (p1 : Int32) (s_NULL : Addr) (s_INTEGER : Addr) (s_FLOAT : Addr) (s_LIST : Addr) (s_MAP : Addr) (s_STRING : Addr) (s_BOOLEAN : Addr) (h0 : Heap) (S_NULL : Sta Z h0 "com/example/nullwise/nullwise/Value$Type" "NULL" "Lcom/example/nullwise/nullwise/Value$Type;" (.ref s_NULL)) (E_NULL : Exa Z h0 s_NULL "com/example/nullwise/nullwise/Value$Type") (S_INTEGER : Sta Z h0 "com/example/nullwise/nullwise/Value$Type" "INTEGER" "Lcom/example/nullwise/nullwise/Value$Type;" (.ref s_INTEGER)) (E_INTEGER : Exa Z h0 s_INTEGER "com/example/nullwise/nullwise/Value$Type") (F_ordinal_NULL : Fld Z h0 s_NULL "java/lang/Enum" "ordinal" "I" (.int (0 : Int32))) (F_ordinal_INTEGER : Fld Z h0 s_INTEGER "java/lang/Enum" "ordinal" "I" (.int (2 : Int32))) (S_FLOAT : Sta Z h0 "com/example/nullwise/nullwise/Value$Type" "FLOAT" "Lcom/example/nullwise/nullwise/Value$Type;" (.ref s_FLOAT)) (E_FLOAT : Exa Z h0 s_FLOAT "com/example/nullwise/nullwise/Value$Type") (F_ordinal_FLOAT : Fld Z h0 s_FLOAT "java/lang/Enum" "ordinal" "I" (.int (3 : Int32))) (S_LIST : Sta Z h0 "com/example/nullwise/nullwise/Value$Type" "LIST" "Lcom/example/nullwise/nullwise/Value$Type;" (.ref s_LIST)) (E_LIST : Exa Z h0 s_LIST "com/example/nullwise/nullwise/Value$Type") (F_ordinal_LIST : Fld Z h0 s_LIST "java/lang/Enum" "ordinal" "I" (.int (5 : Int32))) (S_MAP : Sta Z h0 "com/example/nullwise/nullwise/Value$Type" "MAP" "Lcom/example/nullwise/nullwise/Value$Type;" (.ref s_MAP)) (E_MAP : Exa Z h0 s_MAP "com/example/nullwise/nullwise/Value$Type") (F_ordinal_MAP : Fld Z h0 s_MAP "java/lang/Enum" "ordinal" "I" (.int (6 : Int32))) (S_STRING : Sta Z h0 "com/example/nullwise/nullwise/Value$Type" "STRING" "Lcom/example/nullwise/nullwise/Value$Type;" (.ref s_STRING)) (E_STRING : Exa Z h0 s_STRING "com/example/nullwise/nullwise/Value$Type") (F_ordinal_STRING : Fld Z h0 s_STRING "java/lang/Enum" "ordinal" "I" (.int (4 : Int32))) (S_BOOLEAN : Sta Z h0 "com/example/nullwise/nullwise/Value$Type" "BOOLEAN" "Lcom/example/nullwise/nullwise/Value$Type;" (.ref s_BOOLEAN)) (E_BOOLEAN : Exa Z h0 s_BOOLEAN "com/example/nullwise/nullwise/Value$Type") (F_ordinal_BOOLEAN : Fld Z h0 s_BOOLEAN "java/lang/Enum" "ordinal" "I" (.int (1 : Int32))) :
    MetFree l x (head1 (Jvm.Cond.code x code maxLocals ret :: ws) room_1) (fun a U => a = #[(.int p1)] ∧ Z.Warmed39 U.vm ∧ U.heap = h0) (fun _ _ _ _ _ => True) (fun _ U o U' => ∃ v L, o = .returned v ∧ Q0 Z p1 s_NULL s_INTEGER s_FLOAT s_LIST s_MAP s_STRING s_BOOLEAN h0 v U'.heap L ∧ FrameEnd U o U' L room_1.cells room_1.slots) := by
  refine MetFree.of_bodySF (plainFor_of_name pn_1) hisR ?_
  intro p e s m args below meth c s₁ Bd hml0 hP hK
  obtain ⟨rfl, hZ, hh⟩ := hP
  have hx := Bd.exec
  have hby := Bd.bytes
  have hml : c.maxLocals = 4 := hml0
  have hown : s.vm.findClass "com/example/nullwise/nullwise/TypeIsNumberPinLaw" = some m.cls := findClass_of_methodNamed Bd.named
  have hnm := (name_of_methodNamed Bd.named Bd.method).1
  have X0 : Stand p l e room_1 s m #[(.int p1)] below meth c s₁ [] 0 0 := Stand.of_body Bd
  have e0 : s₁.heap = h0 := by rw [← hh, Bd.state]; rfl
  have pre0 : ∀ t, Steps p.tables e below (s₁.setTop (mkF m 0 #[.val (.int p1), .unset, .unset, .unset] [])) t → Steps p.tables e below (s₁.setTop (entryFrame m #[(.int p1)] maxLocals)) t := fun t k => castTop (ef_0 m p1) k
  obtain ⟨kv, hkv⟩ : ∃ z : Int32, z = ((p1 &&& (2147483647 : Int32)) % (7 : Int32)) := ⟨_, rfl⟩
  have qkv : kv = 0 ∨ kv = 1 ∨ kv = 2 ∨ kv = 3 ∨ kv = 4 ∨ kv = 5 ∨ kv = 6 := by rw [hkv]; exact own_small7 _ (own_rem p1 7 7 rfl (by decide)).1 (own_rem p1 7 7 rfl (by decide)).2
  have pre2 : ∀ t, Steps p.tables e below (s₁.setTop (mkF m 8 #[vI p1, vI kv, .unset, .unset] [])) t → Steps p.tables e below (s₁.setTop (entryFrame m #[(.int p1)] maxLocals)) t := by
    intro t kt
    refine pre0 t ?_
    show Steps _ _ _ (s₁.setTop (mkF m 0 #[vI p1, .unset, .unset, .unset] [])) _
    refine XS.iloadN X0.here hx rfl (hb hby at_0) rfl ?_
    show Steps _ _ _ (s₁.setTop (mkF m 1 #[vI p1, .unset, .unset, .unset] [iI p1])) _
    refine X0.ldcInt hx hown (mvT hZ (hw _ (List.mem_of_getElem? (i := 0) rfl))) (g := (mkF m 1 #[vI p1, .unset, .unset, .unset] [iI p1])) rfl (hb hby at_1) _ ?_
    show Steps _ _ _ (s₁.setTop (mkF m 3 #[vI p1, .unset, .unset, .unset] [iI 2147483647, iI p1])) _
    refine XS.iand X0.here hx rfl (hb hby at_3) rfl ?_
    show Steps _ _ _ (s₁.setTop (mkF m 4 #[vI p1, .unset, .unset, .unset] [iI (p1 &&& (2147483647 : Int32))])) _
    refine XS.bipush X0.here hx rfl (hb hby at_4) ?_
    show Steps _ _ _ (s₁.setTop (mkF m 6 #[vI p1, .unset, .unset, .unset] [iI 7, iI (p1 &&& (2147483647 : Int32))])) _
    refine iremM X0 hx rfl (hb hby at_6) rfl (by decide) ?_
    show Steps _ _ _ (s₁.setTop (mkF m 7 #[vI p1, .unset, .unset, .unset] [iI ((p1 &&& (2147483647 : Int32)) % (7 : Int32))])) _
    refine XS.istoreN X0.here hx rfl (hb hby at_7) rfl (l' := #[vI p1, vI ((p1 &&& (2147483647 : Int32)) % (7 : Int32)), .unset, .unset]) rfl ?_
    rw [← hkv]
    exact kt
  rcases qkv with rfl | rfl | rfl | rfl | rfl | rfl | rfl
  · obtain ⟨T3, X3, e3, st3⟩ := getS2 X0 hx hZ hown (host := "") (Or.inl (hw _ (List.mem_of_getElem? (i := 1) rfl))) Via.refl e0 S_NULL (g := (mkF m 12 #[vI p1, vI 0, .unset, .unset] [])) rfl (hb hby at_12)
    obtain ⟨cq4, kq4, q4a, q4b, q4c⟩ := isOf hZ e3 E_NULL
    obtain ⟨_, _, ⟨T4, L4, k4, n4⟩, -, X4, ⟨Lc4, hQ4, l4, y4, z4⟩, st4⟩ := X3.virtualBack hx (y := (⟨"com/example/nullwise/nullwise/Value$Type", "isNumber", "()Z"⟩ : MethodName)) (z := (⟨"com/example/nullwise/nullwise/Value$Type", "isNumber", "()Z"⟩ : MethodName)) hown (mvT hZ (hw _ (List.mem_of_getElem? (i := 4) rfl))) (mvT hZ (hw _ (List.mem_of_getElem? (i := 5) rfl))) (notFace_of_selects (args := #[]) (mvT hZ (hw _ (List.mem_of_getElem? (i := 7) rfl)))) (mvT hZ (hw _ (List.mem_of_getElem? (i := 7) rfl))) (mvT hZ (hw _ (List.mem_of_getElem? (i := 6) rfl))) (by decide) (backOf (W := 0) (rm1_0 l Z a0 hw []  s_NULL s_INTEGER s_FLOAT s_LIST s_MAP s_STRING s_BOOLEAN h0 S_NULL E_NULL S_INTEGER E_INTEGER F_ordinal_NULL F_ordinal_INTEGER S_FLOAT E_FLOAT F_ordinal_FLOAT S_LIST E_LIST F_ordinal_LIST S_MAP E_MAP F_ordinal_MAP S_STRING E_STRING F_ordinal_STRING S_BOOLEAN E_BOOLEAN F_ordinal_BOOLEAN) hZ (hw _ (List.mem_of_getElem? (i := 8) rfl)) (hw _ (List.mem_of_getElem? (i := 2) rfl)) (by decide) (by decide)) q4a q4c (g := (mkF m 98 #[vI p1, vI 0, vR s_NULL, vI 0] [iR s_NULL])) rfl (by rw [hml]; rfl) (Steps.refl _) (argsL := []) (rest := []) (lenOf pd_0 rfl) rfl (by show 2 * 0 + _ ≤ _; exact Nat.le_of_eq rfl) (hb hby at_98) (fun _ _ => ⟨rfl, e3, (by decide : 0 + 0 ≤ _), (by decide : 0 + 0 ≤ _)⟩)
    dsimp only [Pt.U, Pt.locs, Pt.cells, Pt.slots] at X4 l4 y4 z4 st4 hQ4
    subst l4 y4 z4
    obtain ⟨rfl, rfl, e4⟩ := hQ4
    try rw [List.append_nil] at X4
    obtain ⟨fs, hr, hrun, hended, hW, hsame⟩ := X4.leave (v := some (.int (1 : Int32))) (fun h => by rw [Bd.returns] at h; cases h)
    refine ⟨_, _, pre2 _ ?_, hrun, hended, _, _, rfl, ?_, ⟨_, rfl⟩, hW, hsame.mono (by decide) (by decide)⟩
    · show Steps _ _ _ (s₁.setTop (mkF m 8 #[vI p1, vI 0, .unset, .unset] [])) _
      refine XS.iloadN X0.here hx rfl (hb hby at_8) rfl ?_
      show Steps _ _ _ (s₁.setTop (mkF m 9 #[vI p1, vI 0, .unset, .unset] [iI 0])) _
      refine XS.ifNo X0.here hx rfl (hb hby at_9) rfl ((if0 _ _).trans (teq (by decide : (0 : Int32) = (0 : Int32))).2) ?_
      show Steps _ _ _ (s₁.setTop (mkF m 12 #[vI p1, vI 0, .unset, .unset] [])) _
      refine st3 _ ?_
      show Steps _ _ _ (T3.setTop (mkF m 15 #[vI p1, vI 0, .unset, .unset] [iR s_NULL])) _
      refine XS.astoreN X3.here hx rfl (hb hby at_15) rfl rfl (l' := #[vI p1, vI 0, vR s_NULL, .unset]) rfl ?_
      show Steps _ _ _ (T3.setTop (mkF m 16 #[vI p1, vI 0, vR s_NULL, .unset] [])) _
      refine XS.iconst X3.here hx rfl (hb hby at_16) ?_
      show Steps _ _ _ (T3.setTop (mkF m 17 #[vI p1, vI 0, vR s_NULL, .unset] [iI 0])) _
      refine XS.istoreN X3.here hx rfl (hb hby at_17) rfl (l' := #[vI p1, vI 0, vR s_NULL, vI 0]) rfl ?_
      show Steps _ _ _ (T3.setTop (mkF m 18 #[vI p1, vI 0, vR s_NULL, vI 0] [])) _
      refine XS.goto X3.here hx rfl (pc0 := 18) (pc' := 97) rfl (hb hby at_18) (by decide) (by decide) ?_
      show Steps _ _ _ (T3.setTop (mkF m 97 #[vI p1, vI 0, vR s_NULL, vI 0] [])) _
      refine XS.aloadN X3.here hx rfl (hb hby at_97) rfl rfl ?_
      show Steps _ _ _ (T3.setTop (mkF m 98 #[vI p1, vI 0, vR s_NULL, vI 0] [iR s_NULL])) _
      refine st4.trans ?_
      show Steps _ _ _ (T4.setTop (mkF m 101 #[vI p1, vI 0, vR s_NULL, vI 0] [iI 0])) _
      refine XS.iloadN X4.here hx rfl (hb hby at_101) rfl ?_
      show Steps _ _ _ (T4.setTop (mkF m 102 #[vI p1, vI 0, vR s_NULL, vI 0] [iI 0, iI 0])) _
      refine XS.icmpNo X4.here hx rfl (hb hby at_102) rfl (teq (by decide : (0 : Int32) = (0 : Int32))).2 ?_
      show Steps _ _ _ (T4.setTop (mkF m 105 #[vI p1, vI 0, vR s_NULL, vI 0] [])) _
      refine XS.iconst X4.here hx rfl (hb hby at_105) ?_
      show Steps _ _ _ (T4.setTop (mkF m 106 #[vI p1, vI 0, vR s_NULL, vI 0] [iI 1])) _
      refine XS.goto X4.here hx rfl (pc0 := 106) (pc' := 110) rfl (hb hby at_106) (by decide) (by decide) ?_
      show Steps _ _ _ (T4.setTop (mkF m 110 #[vI p1, vI 0, vR s_NULL, vI 0] [iI 1])) _
      exact retN X4 hx (t := .boolean) Bd.returns (by simp) (hb hby at_110) hr
    · show Q0 Z p1 s_NULL s_INTEGER s_FLOAT s_LIST s_MAP s_STRING s_BOOLEAN h0 _ T4.heap _
      rw [e4]
      exact ⟨rfl, rfl, rfl⟩
  · obtain ⟨T5, X5, e5, st5⟩ := getS2 X0 hx hZ hown (host := "") (Or.inl (hw _ (List.mem_of_getElem? (i := 21) rfl))) Via.refl e0 S_BOOLEAN (g := (mkF m 26 #[vI p1, vI 1, .unset, .unset] [])) rfl (hb hby at_26)
    obtain ⟨cq6, kq6, q6a, q6b, q6c⟩ := isOf hZ e5 E_BOOLEAN
    obtain ⟨_, _, ⟨T6, L6, k6, n6⟩, -, X6, ⟨Lc6, hQ6, l6, y6, z6⟩, st6⟩ := X5.virtualBack hx (y := (⟨"com/example/nullwise/nullwise/Value$Type", "isNumber", "()Z"⟩ : MethodName)) (z := (⟨"com/example/nullwise/nullwise/Value$Type", "isNumber", "()Z"⟩ : MethodName)) hown (mvT hZ (hw _ (List.mem_of_getElem? (i := 4) rfl))) (mvT hZ (hw _ (List.mem_of_getElem? (i := 5) rfl))) (notFace_of_selects (args := #[]) (mvT hZ (hw _ (List.mem_of_getElem? (i := 7) rfl)))) (mvT hZ (hw _ (List.mem_of_getElem? (i := 7) rfl))) (mvT hZ (hw _ (List.mem_of_getElem? (i := 6) rfl))) (by decide) (backOf (W := 0) (rm1_1 l Z a0 hw []  s_NULL s_INTEGER s_FLOAT s_LIST s_MAP s_STRING s_BOOLEAN h0 S_NULL E_NULL S_INTEGER E_INTEGER F_ordinal_NULL F_ordinal_INTEGER S_FLOAT E_FLOAT F_ordinal_FLOAT S_LIST E_LIST F_ordinal_LIST S_MAP E_MAP F_ordinal_MAP S_STRING E_STRING F_ordinal_STRING S_BOOLEAN E_BOOLEAN F_ordinal_BOOLEAN) hZ (hw _ (List.mem_of_getElem? (i := 8) rfl)) (hw _ (List.mem_of_getElem? (i := 2) rfl)) (by decide) (by decide)) q6a q6c (g := (mkF m 98 #[vI p1, vI 1, vR s_BOOLEAN, vI 0] [iR s_BOOLEAN])) rfl (by rw [hml]; rfl) (Steps.refl _) (argsL := []) (rest := []) (lenOf pd_0 rfl) rfl (by show 2 * 0 + _ ≤ _; exact Nat.le_of_eq rfl) (hb hby at_98) (fun _ _ => ⟨rfl, e5, (by decide : 0 + 0 ≤ _), (by decide : 0 + 0 ≤ _)⟩)
    dsimp only [Pt.U, Pt.locs, Pt.cells, Pt.slots] at X6 l6 y6 z6 st6 hQ6
    subst l6 y6 z6
    obtain ⟨rfl, rfl, e6⟩ := hQ6
    try rw [List.append_nil] at X6
    obtain ⟨fs, hr, hrun, hended, hW, hsame⟩ := X6.leave (v := some (.int (1 : Int32))) (fun h => by rw [Bd.returns] at h; cases h)
    refine ⟨_, _, pre2 _ ?_, hrun, hended, _, _, rfl, ?_, ⟨_, rfl⟩, hW, hsame.mono (by decide) (by decide)⟩
    · show Steps _ _ _ (s₁.setTop (mkF m 8 #[vI p1, vI 1, .unset, .unset] [])) _
      refine XS.iloadN X0.here hx rfl (hb hby at_8) rfl ?_
      show Steps _ _ _ (s₁.setTop (mkF m 9 #[vI p1, vI 1, .unset, .unset] [iI 1])) _
      refine XS.ifYes X0.here hx rfl (pc0 := 9) (pc' := 21) rfl (hb hby at_9) rfl ((if0 _ _).trans (feq (by decide : ¬ ((1 : Int32) = (0 : Int32)))).2) (by decide) (by decide) ?_
      show Steps _ _ _ (s₁.setTop (mkF m 21 #[vI p1, vI 1, .unset, .unset] [])) _
      refine XS.iloadN X0.here hx rfl (hb hby at_21) rfl ?_
      show Steps _ _ _ (s₁.setTop (mkF m 22 #[vI p1, vI 1, .unset, .unset] [iI 1])) _
      refine XS.iconst X0.here hx rfl (hb hby at_22) ?_
      show Steps _ _ _ (s₁.setTop (mkF m 23 #[vI p1, vI 1, .unset, .unset] [iI 1, iI 1])) _
      refine XS.icmpNo X0.here hx rfl (hb hby at_23) rfl (teq (by decide : (1 : Int32) = (1 : Int32))).2 ?_
      show Steps _ _ _ (s₁.setTop (mkF m 26 #[vI p1, vI 1, .unset, .unset] [])) _
      refine st5 _ ?_
      show Steps _ _ _ (T5.setTop (mkF m 29 #[vI p1, vI 1, .unset, .unset] [iR s_BOOLEAN])) _
      refine XS.astoreN X5.here hx rfl (hb hby at_29) rfl rfl (l' := #[vI p1, vI 1, vR s_BOOLEAN, .unset]) rfl ?_
      show Steps _ _ _ (T5.setTop (mkF m 30 #[vI p1, vI 1, vR s_BOOLEAN, .unset] [])) _
      refine XS.iconst X5.here hx rfl (hb hby at_30) ?_
      show Steps _ _ _ (T5.setTop (mkF m 31 #[vI p1, vI 1, vR s_BOOLEAN, .unset] [iI 0])) _
      refine XS.istoreN X5.here hx rfl (hb hby at_31) rfl (l' := #[vI p1, vI 1, vR s_BOOLEAN, vI 0]) rfl ?_
      show Steps _ _ _ (T5.setTop (mkF m 32 #[vI p1, vI 1, vR s_BOOLEAN, vI 0] [])) _
      refine XS.goto X5.here hx rfl (pc0 := 32) (pc' := 97) rfl (hb hby at_32) (by decide) (by decide) ?_
      show Steps _ _ _ (T5.setTop (mkF m 97 #[vI p1, vI 1, vR s_BOOLEAN, vI 0] [])) _
      refine XS.aloadN X5.here hx rfl (hb hby at_97) rfl rfl ?_
      show Steps _ _ _ (T5.setTop (mkF m 98 #[vI p1, vI 1, vR s_BOOLEAN, vI 0] [iR s_BOOLEAN])) _
      refine st6.trans ?_
      show Steps _ _ _ (T6.setTop (mkF m 101 #[vI p1, vI 1, vR s_BOOLEAN, vI 0] [iI 0])) _
      refine XS.iloadN X6.here hx rfl (hb hby at_101) rfl ?_
      show Steps _ _ _ (T6.setTop (mkF m 102 #[vI p1, vI 1, vR s_BOOLEAN, vI 0] [iI 0, iI 0])) _
      refine XS.icmpNo X6.here hx rfl (hb hby at_102) rfl (teq (by decide : (0 : Int32) = (0 : Int32))).2 ?_
      show Steps _ _ _ (T6.setTop (mkF m 105 #[vI p1, vI 1, vR s_BOOLEAN, vI 0] [])) _
      refine XS.iconst X6.here hx rfl (hb hby at_105) ?_
      show Steps _ _ _ (T6.setTop (mkF m 106 #[vI p1, vI 1, vR s_BOOLEAN, vI 0] [iI 1])) _
      refine XS.goto X6.here hx rfl (pc0 := 106) (pc' := 110) rfl (hb hby at_106) (by decide) (by decide) ?_
      show Steps _ _ _ (T6.setTop (mkF m 110 #[vI p1, vI 1, vR s_BOOLEAN, vI 0] [iI 1])) _
      exact retN X6 hx (t := .boolean) Bd.returns (by simp) (hb hby at_110) hr
    · show Q0 Z p1 s_NULL s_INTEGER s_FLOAT s_LIST s_MAP s_STRING s_BOOLEAN h0 _ T6.heap _
      rw [e6]
      exact ⟨rfl, rfl, rfl⟩
  · obtain ⟨T7, X7, e7, st7⟩ := getS2 X0 hx hZ hown (host := "") (Or.inl (hw _ (List.mem_of_getElem? (i := 20) rfl))) Via.refl e0 S_INTEGER (g := (mkF m 40 #[vI p1, vI 2, .unset, .unset] [])) rfl (hb hby at_40)
    obtain ⟨cq8, kq8, q8a, q8b, q8c⟩ := isOf hZ e7 E_INTEGER
    obtain ⟨_, _, ⟨T8, L8, k8, n8⟩, -, X8, ⟨Lc8, hQ8, l8, y8, z8⟩, st8⟩ := X7.virtualBack hx (y := (⟨"com/example/nullwise/nullwise/Value$Type", "isNumber", "()Z"⟩ : MethodName)) (z := (⟨"com/example/nullwise/nullwise/Value$Type", "isNumber", "()Z"⟩ : MethodName)) hown (mvT hZ (hw _ (List.mem_of_getElem? (i := 4) rfl))) (mvT hZ (hw _ (List.mem_of_getElem? (i := 5) rfl))) (notFace_of_selects (args := #[]) (mvT hZ (hw _ (List.mem_of_getElem? (i := 7) rfl)))) (mvT hZ (hw _ (List.mem_of_getElem? (i := 7) rfl))) (mvT hZ (hw _ (List.mem_of_getElem? (i := 6) rfl))) (by decide) (backOf (W := 0) (rm1_2 l Z a0 hw []  s_NULL s_INTEGER s_FLOAT s_LIST s_MAP s_STRING s_BOOLEAN h0 S_NULL E_NULL S_INTEGER E_INTEGER F_ordinal_NULL F_ordinal_INTEGER S_FLOAT E_FLOAT F_ordinal_FLOAT S_LIST E_LIST F_ordinal_LIST S_MAP E_MAP F_ordinal_MAP S_STRING E_STRING F_ordinal_STRING S_BOOLEAN E_BOOLEAN F_ordinal_BOOLEAN) hZ (hw _ (List.mem_of_getElem? (i := 8) rfl)) (hw _ (List.mem_of_getElem? (i := 2) rfl)) (by decide) (by decide)) q8a q8c (g := (mkF m 98 #[vI p1, vI 2, vR s_INTEGER, vI 1] [iR s_INTEGER])) rfl (by rw [hml]; rfl) (Steps.refl _) (argsL := []) (rest := []) (lenOf pd_0 rfl) rfl (by show 2 * 0 + _ ≤ _; exact Nat.le_of_eq rfl) (hb hby at_98) (fun _ _ => ⟨rfl, e7, (by decide : 0 + 0 ≤ _), (by decide : 0 + 0 ≤ _)⟩)
    dsimp only [Pt.U, Pt.locs, Pt.cells, Pt.slots] at X8 l8 y8 z8 st8 hQ8
    subst l8 y8 z8
    obtain ⟨rfl, rfl, e8⟩ := hQ8
    try rw [List.append_nil] at X8
    obtain ⟨fs, hr, hrun, hended, hW, hsame⟩ := X8.leave (v := some (.int (1 : Int32))) (fun h => by rw [Bd.returns] at h; cases h)
    refine ⟨_, _, pre2 _ ?_, hrun, hended, _, _, rfl, ?_, ⟨_, rfl⟩, hW, hsame.mono (by decide) (by decide)⟩
    · show Steps _ _ _ (s₁.setTop (mkF m 8 #[vI p1, vI 2, .unset, .unset] [])) _
      refine XS.iloadN X0.here hx rfl (hb hby at_8) rfl ?_
      show Steps _ _ _ (s₁.setTop (mkF m 9 #[vI p1, vI 2, .unset, .unset] [iI 2])) _
      refine XS.ifYes X0.here hx rfl (pc0 := 9) (pc' := 21) rfl (hb hby at_9) rfl ((if0 _ _).trans (feq (by decide : ¬ ((2 : Int32) = (0 : Int32)))).2) (by decide) (by decide) ?_
      show Steps _ _ _ (s₁.setTop (mkF m 21 #[vI p1, vI 2, .unset, .unset] [])) _
      refine XS.iloadN X0.here hx rfl (hb hby at_21) rfl ?_
      show Steps _ _ _ (s₁.setTop (mkF m 22 #[vI p1, vI 2, .unset, .unset] [iI 2])) _
      refine XS.iconst X0.here hx rfl (hb hby at_22) ?_
      show Steps _ _ _ (s₁.setTop (mkF m 23 #[vI p1, vI 2, .unset, .unset] [iI 1, iI 2])) _
      refine XS.icmpYes X0.here hx rfl (pc0 := 23) (pc' := 35) rfl (hb hby at_23) rfl (feq (by decide : ¬ ((2 : Int32) = (1 : Int32)))).2 (by decide) (by decide) ?_
      show Steps _ _ _ (s₁.setTop (mkF m 35 #[vI p1, vI 2, .unset, .unset] [])) _
      refine XS.iloadN X0.here hx rfl (hb hby at_35) rfl ?_
      show Steps _ _ _ (s₁.setTop (mkF m 36 #[vI p1, vI 2, .unset, .unset] [iI 2])) _
      refine XS.iconst X0.here hx rfl (hb hby at_36) ?_
      show Steps _ _ _ (s₁.setTop (mkF m 37 #[vI p1, vI 2, .unset, .unset] [iI 2, iI 2])) _
      refine XS.icmpNo X0.here hx rfl (hb hby at_37) rfl (teq (by decide : (2 : Int32) = (2 : Int32))).2 ?_
      show Steps _ _ _ (s₁.setTop (mkF m 40 #[vI p1, vI 2, .unset, .unset] [])) _
      refine st7 _ ?_
      show Steps _ _ _ (T7.setTop (mkF m 43 #[vI p1, vI 2, .unset, .unset] [iR s_INTEGER])) _
      refine XS.astoreN X7.here hx rfl (hb hby at_43) rfl rfl (l' := #[vI p1, vI 2, vR s_INTEGER, .unset]) rfl ?_
      show Steps _ _ _ (T7.setTop (mkF m 44 #[vI p1, vI 2, vR s_INTEGER, .unset] [])) _
      refine XS.iconst X7.here hx rfl (hb hby at_44) ?_
      show Steps _ _ _ (T7.setTop (mkF m 45 #[vI p1, vI 2, vR s_INTEGER, .unset] [iI 1])) _
      refine XS.istoreN X7.here hx rfl (hb hby at_45) rfl (l' := #[vI p1, vI 2, vR s_INTEGER, vI 1]) rfl ?_
      show Steps _ _ _ (T7.setTop (mkF m 46 #[vI p1, vI 2, vR s_INTEGER, vI 1] [])) _
      refine XS.goto X7.here hx rfl (pc0 := 46) (pc' := 97) rfl (hb hby at_46) (by decide) (by decide) ?_
      show Steps _ _ _ (T7.setTop (mkF m 97 #[vI p1, vI 2, vR s_INTEGER, vI 1] [])) _
      refine XS.aloadN X7.here hx rfl (hb hby at_97) rfl rfl ?_
      show Steps _ _ _ (T7.setTop (mkF m 98 #[vI p1, vI 2, vR s_INTEGER, vI 1] [iR s_INTEGER])) _
      refine st8.trans ?_
      show Steps _ _ _ (T8.setTop (mkF m 101 #[vI p1, vI 2, vR s_INTEGER, vI 1] [iI 1])) _
      refine XS.iloadN X8.here hx rfl (hb hby at_101) rfl ?_
      show Steps _ _ _ (T8.setTop (mkF m 102 #[vI p1, vI 2, vR s_INTEGER, vI 1] [iI 1, iI 1])) _
      refine XS.icmpNo X8.here hx rfl (hb hby at_102) rfl (teq (by decide : (1 : Int32) = (1 : Int32))).2 ?_
      show Steps _ _ _ (T8.setTop (mkF m 105 #[vI p1, vI 2, vR s_INTEGER, vI 1] [])) _
      refine XS.iconst X8.here hx rfl (hb hby at_105) ?_
      show Steps _ _ _ (T8.setTop (mkF m 106 #[vI p1, vI 2, vR s_INTEGER, vI 1] [iI 1])) _
      refine XS.goto X8.here hx rfl (pc0 := 106) (pc' := 110) rfl (hb hby at_106) (by decide) (by decide) ?_
      show Steps _ _ _ (T8.setTop (mkF m 110 #[vI p1, vI 2, vR s_INTEGER, vI 1] [iI 1])) _
      exact retN X8 hx (t := .boolean) Bd.returns (by simp) (hb hby at_110) hr
    · show Q0 Z p1 s_NULL s_INTEGER s_FLOAT s_LIST s_MAP s_STRING s_BOOLEAN h0 _ T8.heap _
      rw [e8]
      exact ⟨rfl, rfl, rfl⟩
  · obtain ⟨T9, X9, e9, st9⟩ := getS2 X0 hx hZ hown (host := "") (Or.inl (hw _ (List.mem_of_getElem? (i := 13) rfl))) Via.refl e0 S_FLOAT (g := (mkF m 54 #[vI p1, vI 3, .unset, .unset] [])) rfl (hb hby at_54)
    obtain ⟨cq10, kq10, q10a, q10b, q10c⟩ := isOf hZ e9 E_FLOAT
    obtain ⟨_, _, ⟨T10, L10, k10, n10⟩, -, X10, ⟨Lc10, hQ10, l10, y10, z10⟩, st10⟩ := X9.virtualBack hx (y := (⟨"com/example/nullwise/nullwise/Value$Type", "isNumber", "()Z"⟩ : MethodName)) (z := (⟨"com/example/nullwise/nullwise/Value$Type", "isNumber", "()Z"⟩ : MethodName)) hown (mvT hZ (hw _ (List.mem_of_getElem? (i := 4) rfl))) (mvT hZ (hw _ (List.mem_of_getElem? (i := 5) rfl))) (notFace_of_selects (args := #[]) (mvT hZ (hw _ (List.mem_of_getElem? (i := 7) rfl)))) (mvT hZ (hw _ (List.mem_of_getElem? (i := 7) rfl))) (mvT hZ (hw _ (List.mem_of_getElem? (i := 6) rfl))) (by decide) (backOf (W := 0) (rm1_3 l Z a0 hw []  s_NULL s_INTEGER s_FLOAT s_LIST s_MAP s_STRING s_BOOLEAN h0 S_NULL E_NULL S_INTEGER E_INTEGER F_ordinal_NULL F_ordinal_INTEGER S_FLOAT E_FLOAT F_ordinal_FLOAT S_LIST E_LIST F_ordinal_LIST S_MAP E_MAP F_ordinal_MAP S_STRING E_STRING F_ordinal_STRING S_BOOLEAN E_BOOLEAN F_ordinal_BOOLEAN) hZ (hw _ (List.mem_of_getElem? (i := 8) rfl)) (hw _ (List.mem_of_getElem? (i := 2) rfl)) (by decide) (by decide)) q10a q10c (g := (mkF m 98 #[vI p1, vI 3, vR s_FLOAT, vI 1] [iR s_FLOAT])) rfl (by rw [hml]; rfl) (Steps.refl _) (argsL := []) (rest := []) (lenOf pd_0 rfl) rfl (by show 2 * 0 + _ ≤ _; exact Nat.le_of_eq rfl) (hb hby at_98) (fun _ _ => ⟨rfl, e9, (by decide : 0 + 0 ≤ _), (by decide : 0 + 0 ≤ _)⟩)
    dsimp only [Pt.U, Pt.locs, Pt.cells, Pt.slots] at X10 l10 y10 z10 st10 hQ10
    subst l10 y10 z10
    obtain ⟨rfl, rfl, e10⟩ := hQ10
    try rw [List.append_nil] at X10
    obtain ⟨fs, hr, hrun, hended, hW, hsame⟩ := X10.leave (v := some (.int (1 : Int32))) (fun h => by rw [Bd.returns] at h; cases h)
    refine ⟨_, _, pre2 _ ?_, hrun, hended, _, _, rfl, ?_, ⟨_, rfl⟩, hW, hsame.mono (by decide) (by decide)⟩
    · show Steps _ _ _ (s₁.setTop (mkF m 8 #[vI p1, vI 3, .unset, .unset] [])) _
      refine XS.iloadN X0.here hx rfl (hb hby at_8) rfl ?_
      show Steps _ _ _ (s₁.setTop (mkF m 9 #[vI p1, vI 3, .unset, .unset] [iI 3])) _
      refine XS.ifYes X0.here hx rfl (pc0 := 9) (pc' := 21) rfl (hb hby at_9) rfl ((if0 _ _).trans (feq (by decide : ¬ ((3 : Int32) = (0 : Int32)))).2) (by decide) (by decide) ?_
      show Steps _ _ _ (s₁.setTop (mkF m 21 #[vI p1, vI 3, .unset, .unset] [])) _
      refine XS.iloadN X0.here hx rfl (hb hby at_21) rfl ?_
      show Steps _ _ _ (s₁.setTop (mkF m 22 #[vI p1, vI 3, .unset, .unset] [iI 3])) _
      refine XS.iconst X0.here hx rfl (hb hby at_22) ?_
      show Steps _ _ _ (s₁.setTop (mkF m 23 #[vI p1, vI 3, .unset, .unset] [iI 1, iI 3])) _
      refine XS.icmpYes X0.here hx rfl (pc0 := 23) (pc' := 35) rfl (hb hby at_23) rfl (feq (by decide : ¬ ((3 : Int32) = (1 : Int32)))).2 (by decide) (by decide) ?_
      show Steps _ _ _ (s₁.setTop (mkF m 35 #[vI p1, vI 3, .unset, .unset] [])) _
      refine XS.iloadN X0.here hx rfl (hb hby at_35) rfl ?_
      show Steps _ _ _ (s₁.setTop (mkF m 36 #[vI p1, vI 3, .unset, .unset] [iI 3])) _
      refine XS.iconst X0.here hx rfl (hb hby at_36) ?_
      show Steps _ _ _ (s₁.setTop (mkF m 37 #[vI p1, vI 3, .unset, .unset] [iI 2, iI 3])) _
      refine XS.icmpYes X0.here hx rfl (pc0 := 37) (pc' := 49) rfl (hb hby at_37) rfl (feq (by decide : ¬ ((3 : Int32) = (2 : Int32)))).2 (by decide) (by decide) ?_
      show Steps _ _ _ (s₁.setTop (mkF m 49 #[vI p1, vI 3, .unset, .unset] [])) _
      refine XS.iloadN X0.here hx rfl (hb hby at_49) rfl ?_
      show Steps _ _ _ (s₁.setTop (mkF m 50 #[vI p1, vI 3, .unset, .unset] [iI 3])) _
      refine XS.iconst X0.here hx rfl (hb hby at_50) ?_
      show Steps _ _ _ (s₁.setTop (mkF m 51 #[vI p1, vI 3, .unset, .unset] [iI 3, iI 3])) _
      refine XS.icmpNo X0.here hx rfl (hb hby at_51) rfl (teq (by decide : (3 : Int32) = (3 : Int32))).2 ?_
      show Steps _ _ _ (s₁.setTop (mkF m 54 #[vI p1, vI 3, .unset, .unset] [])) _
      refine st9 _ ?_
      show Steps _ _ _ (T9.setTop (mkF m 57 #[vI p1, vI 3, .unset, .unset] [iR s_FLOAT])) _
      refine XS.astoreN X9.here hx rfl (hb hby at_57) rfl rfl (l' := #[vI p1, vI 3, vR s_FLOAT, .unset]) rfl ?_
      show Steps _ _ _ (T9.setTop (mkF m 58 #[vI p1, vI 3, vR s_FLOAT, .unset] [])) _
      refine XS.iconst X9.here hx rfl (hb hby at_58) ?_
      show Steps _ _ _ (T9.setTop (mkF m 59 #[vI p1, vI 3, vR s_FLOAT, .unset] [iI 1])) _
      refine XS.istoreN X9.here hx rfl (hb hby at_59) rfl (l' := #[vI p1, vI 3, vR s_FLOAT, vI 1]) rfl ?_
      show Steps _ _ _ (T9.setTop (mkF m 60 #[vI p1, vI 3, vR s_FLOAT, vI 1] [])) _
      refine XS.goto X9.here hx rfl (pc0 := 60) (pc' := 97) rfl (hb hby at_60) (by decide) (by decide) ?_
      show Steps _ _ _ (T9.setTop (mkF m 97 #[vI p1, vI 3, vR s_FLOAT, vI 1] [])) _
      refine XS.aloadN X9.here hx rfl (hb hby at_97) rfl rfl ?_
      show Steps _ _ _ (T9.setTop (mkF m 98 #[vI p1, vI 3, vR s_FLOAT, vI 1] [iR s_FLOAT])) _
      refine st10.trans ?_
      show Steps _ _ _ (T10.setTop (mkF m 101 #[vI p1, vI 3, vR s_FLOAT, vI 1] [iI 1])) _
      refine XS.iloadN X10.here hx rfl (hb hby at_101) rfl ?_
      show Steps _ _ _ (T10.setTop (mkF m 102 #[vI p1, vI 3, vR s_FLOAT, vI 1] [iI 1, iI 1])) _
      refine XS.icmpNo X10.here hx rfl (hb hby at_102) rfl (teq (by decide : (1 : Int32) = (1 : Int32))).2 ?_
      show Steps _ _ _ (T10.setTop (mkF m 105 #[vI p1, vI 3, vR s_FLOAT, vI 1] [])) _
      refine XS.iconst X10.here hx rfl (hb hby at_105) ?_
      show Steps _ _ _ (T10.setTop (mkF m 106 #[vI p1, vI 3, vR s_FLOAT, vI 1] [iI 1])) _
      refine XS.goto X10.here hx rfl (pc0 := 106) (pc' := 110) rfl (hb hby at_106) (by decide) (by decide) ?_
      show Steps _ _ _ (T10.setTop (mkF m 110 #[vI p1, vI 3, vR s_FLOAT, vI 1] [iI 1])) _
      exact retN X10 hx (t := .boolean) Bd.returns (by simp) (hb hby at_110) hr
    · show Q0 Z p1 s_NULL s_INTEGER s_FLOAT s_LIST s_MAP s_STRING s_BOOLEAN h0 _ T10.heap _
      rw [e10]
      exact ⟨rfl, rfl, rfl⟩
  · obtain ⟨T11, X11, e11, st11⟩ := getS2 X0 hx hZ hown (host := "") (Or.inl (hw _ (List.mem_of_getElem? (i := 18) rfl))) Via.refl e0 S_STRING (g := (mkF m 68 #[vI p1, vI 4, .unset, .unset] [])) rfl (hb hby at_68)
    obtain ⟨cq12, kq12, q12a, q12b, q12c⟩ := isOf hZ e11 E_STRING
    obtain ⟨_, _, ⟨T12, L12, k12, n12⟩, -, X12, ⟨Lc12, hQ12, l12, y12, z12⟩, st12⟩ := X11.virtualBack hx (y := (⟨"com/example/nullwise/nullwise/Value$Type", "isNumber", "()Z"⟩ : MethodName)) (z := (⟨"com/example/nullwise/nullwise/Value$Type", "isNumber", "()Z"⟩ : MethodName)) hown (mvT hZ (hw _ (List.mem_of_getElem? (i := 4) rfl))) (mvT hZ (hw _ (List.mem_of_getElem? (i := 5) rfl))) (notFace_of_selects (args := #[]) (mvT hZ (hw _ (List.mem_of_getElem? (i := 7) rfl)))) (mvT hZ (hw _ (List.mem_of_getElem? (i := 7) rfl))) (mvT hZ (hw _ (List.mem_of_getElem? (i := 6) rfl))) (by decide) (backOf (W := 0) (rm1_4 l Z a0 hw []  s_NULL s_INTEGER s_FLOAT s_LIST s_MAP s_STRING s_BOOLEAN h0 S_NULL E_NULL S_INTEGER E_INTEGER F_ordinal_NULL F_ordinal_INTEGER S_FLOAT E_FLOAT F_ordinal_FLOAT S_LIST E_LIST F_ordinal_LIST S_MAP E_MAP F_ordinal_MAP S_STRING E_STRING F_ordinal_STRING S_BOOLEAN E_BOOLEAN F_ordinal_BOOLEAN) hZ (hw _ (List.mem_of_getElem? (i := 8) rfl)) (hw _ (List.mem_of_getElem? (i := 2) rfl)) (by decide) (by decide)) q12a q12c (g := (mkF m 98 #[vI p1, vI 4, vR s_STRING, vI 0] [iR s_STRING])) rfl (by rw [hml]; rfl) (Steps.refl _) (argsL := []) (rest := []) (lenOf pd_0 rfl) rfl (by show 2 * 0 + _ ≤ _; exact Nat.le_of_eq rfl) (hb hby at_98) (fun _ _ => ⟨rfl, e11, (by decide : 0 + 0 ≤ _), (by decide : 0 + 0 ≤ _)⟩)
    dsimp only [Pt.U, Pt.locs, Pt.cells, Pt.slots] at X12 l12 y12 z12 st12 hQ12
    subst l12 y12 z12
    obtain ⟨rfl, rfl, e12⟩ := hQ12
    try rw [List.append_nil] at X12
    obtain ⟨fs, hr, hrun, hended, hW, hsame⟩ := X12.leave (v := some (.int (1 : Int32))) (fun h => by rw [Bd.returns] at h; cases h)
    refine ⟨_, _, pre2 _ ?_, hrun, hended, _, _, rfl, ?_, ⟨_, rfl⟩, hW, hsame.mono (by decide) (by decide)⟩
    · show Steps _ _ _ (s₁.setTop (mkF m 8 #[vI p1, vI 4, .unset, .unset] [])) _
      refine XS.iloadN X0.here hx rfl (hb hby at_8) rfl ?_
      show Steps _ _ _ (s₁.setTop (mkF m 9 #[vI p1, vI 4, .unset, .unset] [iI 4])) _
      refine XS.ifYes X0.here hx rfl (pc0 := 9) (pc' := 21) rfl (hb hby at_9) rfl ((if0 _ _).trans (feq (by decide : ¬ ((4 : Int32) = (0 : Int32)))).2) (by decide) (by decide) ?_
      show Steps _ _ _ (s₁.setTop (mkF m 21 #[vI p1, vI 4, .unset, .unset] [])) _
      refine XS.iloadN X0.here hx rfl (hb hby at_21) rfl ?_
      show Steps _ _ _ (s₁.setTop (mkF m 22 #[vI p1, vI 4, .unset, .unset] [iI 4])) _
      refine XS.iconst X0.here hx rfl (hb hby at_22) ?_
      show Steps _ _ _ (s₁.setTop (mkF m 23 #[vI p1, vI 4, .unset, .unset] [iI 1, iI 4])) _
      refine XS.icmpYes X0.here hx rfl (pc0 := 23) (pc' := 35) rfl (hb hby at_23) rfl (feq (by decide : ¬ ((4 : Int32) = (1 : Int32)))).2 (by decide) (by decide) ?_
      show Steps _ _ _ (s₁.setTop (mkF m 35 #[vI p1, vI 4, .unset, .unset] [])) _
      refine XS.iloadN X0.here hx rfl (hb hby at_35) rfl ?_
      show Steps _ _ _ (s₁.setTop (mkF m 36 #[vI p1, vI 4, .unset, .unset] [iI 4])) _
      refine XS.iconst X0.here hx rfl (hb hby at_36) ?_
      show Steps _ _ _ (s₁.setTop (mkF m 37 #[vI p1, vI 4, .unset, .unset] [iI 2, iI 4])) _
      refine XS.icmpYes X0.here hx rfl (pc0 := 37) (pc' := 49) rfl (hb hby at_37) rfl (feq (by decide : ¬ ((4 : Int32) = (2 : Int32)))).2 (by decide) (by decide) ?_
      show Steps _ _ _ (s₁.setTop (mkF m 49 #[vI p1, vI 4, .unset, .unset] [])) _
      refine XS.iloadN X0.here hx rfl (hb hby at_49) rfl ?_
      show Steps _ _ _ (s₁.setTop (mkF m 50 #[vI p1, vI 4, .unset, .unset] [iI 4])) _
      refine XS.iconst X0.here hx rfl (hb hby at_50) ?_
      show Steps _ _ _ (s₁.setTop (mkF m 51 #[vI p1, vI 4, .unset, .unset] [iI 3, iI 4])) _
      refine XS.icmpYes X0.here hx rfl (pc0 := 51) (pc' := 63) rfl (hb hby at_51) rfl (feq (by decide : ¬ ((4 : Int32) = (3 : Int32)))).2 (by decide) (by decide) ?_
      show Steps _ _ _ (s₁.setTop (mkF m 63 #[vI p1, vI 4, .unset, .unset] [])) _
      refine XS.iloadN X0.here hx rfl (hb hby at_63) rfl ?_
      show Steps _ _ _ (s₁.setTop (mkF m 64 #[vI p1, vI 4, .unset, .unset] [iI 4])) _
      refine XS.iconst X0.here hx rfl (hb hby at_64) ?_
      show Steps _ _ _ (s₁.setTop (mkF m 65 #[vI p1, vI 4, .unset, .unset] [iI 4, iI 4])) _
      refine XS.icmpNo X0.here hx rfl (hb hby at_65) rfl (teq (by decide : (4 : Int32) = (4 : Int32))).2 ?_
      show Steps _ _ _ (s₁.setTop (mkF m 68 #[vI p1, vI 4, .unset, .unset] [])) _
      refine st11 _ ?_
      show Steps _ _ _ (T11.setTop (mkF m 71 #[vI p1, vI 4, .unset, .unset] [iR s_STRING])) _
      refine XS.astoreN X11.here hx rfl (hb hby at_71) rfl rfl (l' := #[vI p1, vI 4, vR s_STRING, .unset]) rfl ?_
      show Steps _ _ _ (T11.setTop (mkF m 72 #[vI p1, vI 4, vR s_STRING, .unset] [])) _
      refine XS.iconst X11.here hx rfl (hb hby at_72) ?_
      show Steps _ _ _ (T11.setTop (mkF m 73 #[vI p1, vI 4, vR s_STRING, .unset] [iI 0])) _
      refine XS.istoreN X11.here hx rfl (hb hby at_73) rfl (l' := #[vI p1, vI 4, vR s_STRING, vI 0]) rfl ?_
      show Steps _ _ _ (T11.setTop (mkF m 74 #[vI p1, vI 4, vR s_STRING, vI 0] [])) _
      refine XS.goto X11.here hx rfl (pc0 := 74) (pc' := 97) rfl (hb hby at_74) (by decide) (by decide) ?_
      show Steps _ _ _ (T11.setTop (mkF m 97 #[vI p1, vI 4, vR s_STRING, vI 0] [])) _
      refine XS.aloadN X11.here hx rfl (hb hby at_97) rfl rfl ?_
      show Steps _ _ _ (T11.setTop (mkF m 98 #[vI p1, vI 4, vR s_STRING, vI 0] [iR s_STRING])) _
      refine st12.trans ?_
      show Steps _ _ _ (T12.setTop (mkF m 101 #[vI p1, vI 4, vR s_STRING, vI 0] [iI 0])) _
      refine XS.iloadN X12.here hx rfl (hb hby at_101) rfl ?_
      show Steps _ _ _ (T12.setTop (mkF m 102 #[vI p1, vI 4, vR s_STRING, vI 0] [iI 0, iI 0])) _
      refine XS.icmpNo X12.here hx rfl (hb hby at_102) rfl (teq (by decide : (0 : Int32) = (0 : Int32))).2 ?_
      show Steps _ _ _ (T12.setTop (mkF m 105 #[vI p1, vI 4, vR s_STRING, vI 0] [])) _
      refine XS.iconst X12.here hx rfl (hb hby at_105) ?_
      show Steps _ _ _ (T12.setTop (mkF m 106 #[vI p1, vI 4, vR s_STRING, vI 0] [iI 1])) _
      refine XS.goto X12.here hx rfl (pc0 := 106) (pc' := 110) rfl (hb hby at_106) (by decide) (by decide) ?_
      show Steps _ _ _ (T12.setTop (mkF m 110 #[vI p1, vI 4, vR s_STRING, vI 0] [iI 1])) _
      exact retN X12 hx (t := .boolean) Bd.returns (by simp) (hb hby at_110) hr
    · show Q0 Z p1 s_NULL s_INTEGER s_FLOAT s_LIST s_MAP s_STRING s_BOOLEAN h0 _ T12.heap _
      rw [e12]
      exact ⟨rfl, rfl, rfl⟩
  · obtain ⟨T13, X13, e13, st13⟩ := getS2 X0 hx hZ hown (host := "") (Or.inl (hw _ (List.mem_of_getElem? (i := 14) rfl))) Via.refl e0 S_LIST (g := (mkF m 82 #[vI p1, vI 5, .unset, .unset] [])) rfl (hb hby at_82)
    obtain ⟨cq14, kq14, q14a, q14b, q14c⟩ := isOf hZ e13 E_LIST
    obtain ⟨_, _, ⟨T14, L14, k14, n14⟩, -, X14, ⟨Lc14, hQ14, l14, y14, z14⟩, st14⟩ := X13.virtualBack hx (y := (⟨"com/example/nullwise/nullwise/Value$Type", "isNumber", "()Z"⟩ : MethodName)) (z := (⟨"com/example/nullwise/nullwise/Value$Type", "isNumber", "()Z"⟩ : MethodName)) hown (mvT hZ (hw _ (List.mem_of_getElem? (i := 4) rfl))) (mvT hZ (hw _ (List.mem_of_getElem? (i := 5) rfl))) (notFace_of_selects (args := #[]) (mvT hZ (hw _ (List.mem_of_getElem? (i := 7) rfl)))) (mvT hZ (hw _ (List.mem_of_getElem? (i := 7) rfl))) (mvT hZ (hw _ (List.mem_of_getElem? (i := 6) rfl))) (by decide) (backOf (W := 0) (rm1_5 l Z a0 hw []  s_NULL s_INTEGER s_FLOAT s_LIST s_MAP s_STRING s_BOOLEAN h0 S_NULL E_NULL S_INTEGER E_INTEGER F_ordinal_NULL F_ordinal_INTEGER S_FLOAT E_FLOAT F_ordinal_FLOAT S_LIST E_LIST F_ordinal_LIST S_MAP E_MAP F_ordinal_MAP S_STRING E_STRING F_ordinal_STRING S_BOOLEAN E_BOOLEAN F_ordinal_BOOLEAN) hZ (hw _ (List.mem_of_getElem? (i := 8) rfl)) (hw _ (List.mem_of_getElem? (i := 2) rfl)) (by decide) (by decide)) q14a q14c (g := (mkF m 98 #[vI p1, vI 5, vR s_LIST, vI 0] [iR s_LIST])) rfl (by rw [hml]; rfl) (Steps.refl _) (argsL := []) (rest := []) (lenOf pd_0 rfl) rfl (by show 2 * 0 + _ ≤ _; exact Nat.le_of_eq rfl) (hb hby at_98) (fun _ _ => ⟨rfl, e13, (by decide : 0 + 0 ≤ _), (by decide : 0 + 0 ≤ _)⟩)
    dsimp only [Pt.U, Pt.locs, Pt.cells, Pt.slots] at X14 l14 y14 z14 st14 hQ14
    subst l14 y14 z14
    obtain ⟨rfl, rfl, e14⟩ := hQ14
    try rw [List.append_nil] at X14
    obtain ⟨fs, hr, hrun, hended, hW, hsame⟩ := X14.leave (v := some (.int (1 : Int32))) (fun h => by rw [Bd.returns] at h; cases h)
    refine ⟨_, _, pre2 _ ?_, hrun, hended, _, _, rfl, ?_, ⟨_, rfl⟩, hW, hsame.mono (by decide) (by decide)⟩
    · show Steps _ _ _ (s₁.setTop (mkF m 8 #[vI p1, vI 5, .unset, .unset] [])) _
      refine XS.iloadN X0.here hx rfl (hb hby at_8) rfl ?_
      show Steps _ _ _ (s₁.setTop (mkF m 9 #[vI p1, vI 5, .unset, .unset] [iI 5])) _
      refine XS.ifYes X0.here hx rfl (pc0 := 9) (pc' := 21) rfl (hb hby at_9) rfl ((if0 _ _).trans (feq (by decide : ¬ ((5 : Int32) = (0 : Int32)))).2) (by decide) (by decide) ?_
      show Steps _ _ _ (s₁.setTop (mkF m 21 #[vI p1, vI 5, .unset, .unset] [])) _
      refine XS.iloadN X0.here hx rfl (hb hby at_21) rfl ?_
      show Steps _ _ _ (s₁.setTop (mkF m 22 #[vI p1, vI 5, .unset, .unset] [iI 5])) _
      refine XS.iconst X0.here hx rfl (hb hby at_22) ?_
      show Steps _ _ _ (s₁.setTop (mkF m 23 #[vI p1, vI 5, .unset, .unset] [iI 1, iI 5])) _
      refine XS.icmpYes X0.here hx rfl (pc0 := 23) (pc' := 35) rfl (hb hby at_23) rfl (feq (by decide : ¬ ((5 : Int32) = (1 : Int32)))).2 (by decide) (by decide) ?_
      show Steps _ _ _ (s₁.setTop (mkF m 35 #[vI p1, vI 5, .unset, .unset] [])) _
      refine XS.iloadN X0.here hx rfl (hb hby at_35) rfl ?_
      show Steps _ _ _ (s₁.setTop (mkF m 36 #[vI p1, vI 5, .unset, .unset] [iI 5])) _
      refine XS.iconst X0.here hx rfl (hb hby at_36) ?_
      show Steps _ _ _ (s₁.setTop (mkF m 37 #[vI p1, vI 5, .unset, .unset] [iI 2, iI 5])) _
      refine XS.icmpYes X0.here hx rfl (pc0 := 37) (pc' := 49) rfl (hb hby at_37) rfl (feq (by decide : ¬ ((5 : Int32) = (2 : Int32)))).2 (by decide) (by decide) ?_
      show Steps _ _ _ (s₁.setTop (mkF m 49 #[vI p1, vI 5, .unset, .unset] [])) _
      refine XS.iloadN X0.here hx rfl (hb hby at_49) rfl ?_
      show Steps _ _ _ (s₁.setTop (mkF m 50 #[vI p1, vI 5, .unset, .unset] [iI 5])) _
      refine XS.iconst X0.here hx rfl (hb hby at_50) ?_
      show Steps _ _ _ (s₁.setTop (mkF m 51 #[vI p1, vI 5, .unset, .unset] [iI 3, iI 5])) _
      refine XS.icmpYes X0.here hx rfl (pc0 := 51) (pc' := 63) rfl (hb hby at_51) rfl (feq (by decide : ¬ ((5 : Int32) = (3 : Int32)))).2 (by decide) (by decide) ?_
      show Steps _ _ _ (s₁.setTop (mkF m 63 #[vI p1, vI 5, .unset, .unset] [])) _
      refine XS.iloadN X0.here hx rfl (hb hby at_63) rfl ?_
      show Steps _ _ _ (s₁.setTop (mkF m 64 #[vI p1, vI 5, .unset, .unset] [iI 5])) _
      refine XS.iconst X0.here hx rfl (hb hby at_64) ?_
      show Steps _ _ _ (s₁.setTop (mkF m 65 #[vI p1, vI 5, .unset, .unset] [iI 4, iI 5])) _
      refine XS.icmpYes X0.here hx rfl (pc0 := 65) (pc' := 77) rfl (hb hby at_65) rfl (feq (by decide : ¬ ((5 : Int32) = (4 : Int32)))).2 (by decide) (by decide) ?_
      show Steps _ _ _ (s₁.setTop (mkF m 77 #[vI p1, vI 5, .unset, .unset] [])) _
      refine XS.iloadN X0.here hx rfl (hb hby at_77) rfl ?_
      show Steps _ _ _ (s₁.setTop (mkF m 78 #[vI p1, vI 5, .unset, .unset] [iI 5])) _
      refine XS.iconst X0.here hx rfl (hb hby at_78) ?_
      show Steps _ _ _ (s₁.setTop (mkF m 79 #[vI p1, vI 5, .unset, .unset] [iI 5, iI 5])) _
      refine XS.icmpNo X0.here hx rfl (hb hby at_79) rfl (teq (by decide : (5 : Int32) = (5 : Int32))).2 ?_
      show Steps _ _ _ (s₁.setTop (mkF m 82 #[vI p1, vI 5, .unset, .unset] [])) _
      refine st13 _ ?_
      show Steps _ _ _ (T13.setTop (mkF m 85 #[vI p1, vI 5, .unset, .unset] [iR s_LIST])) _
      refine XS.astoreN X13.here hx rfl (hb hby at_85) rfl rfl (l' := #[vI p1, vI 5, vR s_LIST, .unset]) rfl ?_
      show Steps _ _ _ (T13.setTop (mkF m 86 #[vI p1, vI 5, vR s_LIST, .unset] [])) _
      refine XS.iconst X13.here hx rfl (hb hby at_86) ?_
      show Steps _ _ _ (T13.setTop (mkF m 87 #[vI p1, vI 5, vR s_LIST, .unset] [iI 0])) _
      refine XS.istoreN X13.here hx rfl (hb hby at_87) rfl (l' := #[vI p1, vI 5, vR s_LIST, vI 0]) rfl ?_
      show Steps _ _ _ (T13.setTop (mkF m 88 #[vI p1, vI 5, vR s_LIST, vI 0] [])) _
      refine XS.goto X13.here hx rfl (pc0 := 88) (pc' := 97) rfl (hb hby at_88) (by decide) (by decide) ?_
      show Steps _ _ _ (T13.setTop (mkF m 97 #[vI p1, vI 5, vR s_LIST, vI 0] [])) _
      refine XS.aloadN X13.here hx rfl (hb hby at_97) rfl rfl ?_
      show Steps _ _ _ (T13.setTop (mkF m 98 #[vI p1, vI 5, vR s_LIST, vI 0] [iR s_LIST])) _
      refine st14.trans ?_
      show Steps _ _ _ (T14.setTop (mkF m 101 #[vI p1, vI 5, vR s_LIST, vI 0] [iI 0])) _
      refine XS.iloadN X14.here hx rfl (hb hby at_101) rfl ?_
      show Steps _ _ _ (T14.setTop (mkF m 102 #[vI p1, vI 5, vR s_LIST, vI 0] [iI 0, iI 0])) _
      refine XS.icmpNo X14.here hx rfl (hb hby at_102) rfl (teq (by decide : (0 : Int32) = (0 : Int32))).2 ?_
      show Steps _ _ _ (T14.setTop (mkF m 105 #[vI p1, vI 5, vR s_LIST, vI 0] [])) _
      refine XS.iconst X14.here hx rfl (hb hby at_105) ?_
      show Steps _ _ _ (T14.setTop (mkF m 106 #[vI p1, vI 5, vR s_LIST, vI 0] [iI 1])) _
      refine XS.goto X14.here hx rfl (pc0 := 106) (pc' := 110) rfl (hb hby at_106) (by decide) (by decide) ?_
      show Steps _ _ _ (T14.setTop (mkF m 110 #[vI p1, vI 5, vR s_LIST, vI 0] [iI 1])) _
      exact retN X14 hx (t := .boolean) Bd.returns (by simp) (hb hby at_110) hr
    · show Q0 Z p1 s_NULL s_INTEGER s_FLOAT s_LIST s_MAP s_STRING s_BOOLEAN h0 _ T14.heap _
      rw [e14]
      exact ⟨rfl, rfl, rfl⟩
  · obtain ⟨T15, X15, e15, st15⟩ := getS2 X0 hx hZ hown (host := "") (Or.inl (hw _ (List.mem_of_getElem? (i := 16) rfl))) Via.refl e0 S_MAP (g := (mkF m 91 #[vI p1, vI 6, .unset, .unset] [])) rfl (hb hby at_91)
    obtain ⟨cq16, kq16, q16a, q16b, q16c⟩ := isOf hZ e15 E_MAP
    obtain ⟨_, _, ⟨T16, L16, k16, n16⟩, -, X16, ⟨Lc16, hQ16, l16, y16, z16⟩, st16⟩ := X15.virtualBack hx (y := (⟨"com/example/nullwise/nullwise/Value$Type", "isNumber", "()Z"⟩ : MethodName)) (z := (⟨"com/example/nullwise/nullwise/Value$Type", "isNumber", "()Z"⟩ : MethodName)) hown (mvT hZ (hw _ (List.mem_of_getElem? (i := 4) rfl))) (mvT hZ (hw _ (List.mem_of_getElem? (i := 5) rfl))) (notFace_of_selects (args := #[]) (mvT hZ (hw _ (List.mem_of_getElem? (i := 7) rfl)))) (mvT hZ (hw _ (List.mem_of_getElem? (i := 7) rfl))) (mvT hZ (hw _ (List.mem_of_getElem? (i := 6) rfl))) (by decide) (backOf (W := 0) (rm1_6 l Z a0 hw []  s_NULL s_INTEGER s_FLOAT s_LIST s_MAP s_STRING s_BOOLEAN h0 S_NULL E_NULL S_INTEGER E_INTEGER F_ordinal_NULL F_ordinal_INTEGER S_FLOAT E_FLOAT F_ordinal_FLOAT S_LIST E_LIST F_ordinal_LIST S_MAP E_MAP F_ordinal_MAP S_STRING E_STRING F_ordinal_STRING S_BOOLEAN E_BOOLEAN F_ordinal_BOOLEAN) hZ (hw _ (List.mem_of_getElem? (i := 8) rfl)) (hw _ (List.mem_of_getElem? (i := 2) rfl)) (by decide) (by decide)) q16a q16c (g := (mkF m 98 #[vI p1, vI 6, vR s_MAP, vI 0] [iR s_MAP])) rfl (by rw [hml]; rfl) (Steps.refl _) (argsL := []) (rest := []) (lenOf pd_0 rfl) rfl (by show 2 * 0 + _ ≤ _; exact Nat.le_of_eq rfl) (hb hby at_98) (fun _ _ => ⟨rfl, e15, (by decide : 0 + 0 ≤ _), (by decide : 0 + 0 ≤ _)⟩)
    dsimp only [Pt.U, Pt.locs, Pt.cells, Pt.slots] at X16 l16 y16 z16 st16 hQ16
    subst l16 y16 z16
    obtain ⟨rfl, rfl, e16⟩ := hQ16
    try rw [List.append_nil] at X16
    obtain ⟨fs, hr, hrun, hended, hW, hsame⟩ := X16.leave (v := some (.int (1 : Int32))) (fun h => by rw [Bd.returns] at h; cases h)
    refine ⟨_, _, pre2 _ ?_, hrun, hended, _, _, rfl, ?_, ⟨_, rfl⟩, hW, hsame.mono (by decide) (by decide)⟩
    · show Steps _ _ _ (s₁.setTop (mkF m 8 #[vI p1, vI 6, .unset, .unset] [])) _
      refine XS.iloadN X0.here hx rfl (hb hby at_8) rfl ?_
      show Steps _ _ _ (s₁.setTop (mkF m 9 #[vI p1, vI 6, .unset, .unset] [iI 6])) _
      refine XS.ifYes X0.here hx rfl (pc0 := 9) (pc' := 21) rfl (hb hby at_9) rfl ((if0 _ _).trans (feq (by decide : ¬ ((6 : Int32) = (0 : Int32)))).2) (by decide) (by decide) ?_
      show Steps _ _ _ (s₁.setTop (mkF m 21 #[vI p1, vI 6, .unset, .unset] [])) _
      refine XS.iloadN X0.here hx rfl (hb hby at_21) rfl ?_
      show Steps _ _ _ (s₁.setTop (mkF m 22 #[vI p1, vI 6, .unset, .unset] [iI 6])) _
      refine XS.iconst X0.here hx rfl (hb hby at_22) ?_
      show Steps _ _ _ (s₁.setTop (mkF m 23 #[vI p1, vI 6, .unset, .unset] [iI 1, iI 6])) _
      refine XS.icmpYes X0.here hx rfl (pc0 := 23) (pc' := 35) rfl (hb hby at_23) rfl (feq (by decide : ¬ ((6 : Int32) = (1 : Int32)))).2 (by decide) (by decide) ?_
      show Steps _ _ _ (s₁.setTop (mkF m 35 #[vI p1, vI 6, .unset, .unset] [])) _
      refine XS.iloadN X0.here hx rfl (hb hby at_35) rfl ?_
      show Steps _ _ _ (s₁.setTop (mkF m 36 #[vI p1, vI 6, .unset, .unset] [iI 6])) _
      refine XS.iconst X0.here hx rfl (hb hby at_36) ?_
      show Steps _ _ _ (s₁.setTop (mkF m 37 #[vI p1, vI 6, .unset, .unset] [iI 2, iI 6])) _
      refine XS.icmpYes X0.here hx rfl (pc0 := 37) (pc' := 49) rfl (hb hby at_37) rfl (feq (by decide : ¬ ((6 : Int32) = (2 : Int32)))).2 (by decide) (by decide) ?_
      show Steps _ _ _ (s₁.setTop (mkF m 49 #[vI p1, vI 6, .unset, .unset] [])) _
      refine XS.iloadN X0.here hx rfl (hb hby at_49) rfl ?_
      show Steps _ _ _ (s₁.setTop (mkF m 50 #[vI p1, vI 6, .unset, .unset] [iI 6])) _
      refine XS.iconst X0.here hx rfl (hb hby at_50) ?_
      show Steps _ _ _ (s₁.setTop (mkF m 51 #[vI p1, vI 6, .unset, .unset] [iI 3, iI 6])) _
      refine XS.icmpYes X0.here hx rfl (pc0 := 51) (pc' := 63) rfl (hb hby at_51) rfl (feq (by decide : ¬ ((6 : Int32) = (3 : Int32)))).2 (by decide) (by decide) ?_
      show Steps _ _ _ (s₁.setTop (mkF m 63 #[vI p1, vI 6, .unset, .unset] [])) _
      refine XS.iloadN X0.here hx rfl (hb hby at_63) rfl ?_
      show Steps _ _ _ (s₁.setTop (mkF m 64 #[vI p1, vI 6, .unset, .unset] [iI 6])) _
      refine XS.iconst X0.here hx rfl (hb hby at_64) ?_
      show Steps _ _ _ (s₁.setTop (mkF m 65 #[vI p1, vI 6, .unset, .unset] [iI 4, iI 6])) _
      refine XS.icmpYes X0.here hx rfl (pc0 := 65) (pc' := 77) rfl (hb hby at_65) rfl (feq (by decide : ¬ ((6 : Int32) = (4 : Int32)))).2 (by decide) (by decide) ?_
      show Steps _ _ _ (s₁.setTop (mkF m 77 #[vI p1, vI 6, .unset, .unset] [])) _
      refine XS.iloadN X0.here hx rfl (hb hby at_77) rfl ?_
      show Steps _ _ _ (s₁.setTop (mkF m 78 #[vI p1, vI 6, .unset, .unset] [iI 6])) _
      refine XS.iconst X0.here hx rfl (hb hby at_78) ?_
      show Steps _ _ _ (s₁.setTop (mkF m 79 #[vI p1, vI 6, .unset, .unset] [iI 5, iI 6])) _
      refine XS.icmpYes X0.here hx rfl (pc0 := 79) (pc' := 91) rfl (hb hby at_79) rfl (feq (by decide : ¬ ((6 : Int32) = (5 : Int32)))).2 (by decide) (by decide) ?_
      show Steps _ _ _ (s₁.setTop (mkF m 91 #[vI p1, vI 6, .unset, .unset] [])) _
      refine st15 _ ?_
      show Steps _ _ _ (T15.setTop (mkF m 94 #[vI p1, vI 6, .unset, .unset] [iR s_MAP])) _
      refine XS.astoreN X15.here hx rfl (hb hby at_94) rfl rfl (l' := #[vI p1, vI 6, vR s_MAP, .unset]) rfl ?_
      show Steps _ _ _ (T15.setTop (mkF m 95 #[vI p1, vI 6, vR s_MAP, .unset] [])) _
      refine XS.iconst X15.here hx rfl (hb hby at_95) ?_
      show Steps _ _ _ (T15.setTop (mkF m 96 #[vI p1, vI 6, vR s_MAP, .unset] [iI 0])) _
      refine XS.istoreN X15.here hx rfl (hb hby at_96) rfl (l' := #[vI p1, vI 6, vR s_MAP, vI 0]) rfl ?_
      show Steps _ _ _ (T15.setTop (mkF m 97 #[vI p1, vI 6, vR s_MAP, vI 0] [])) _
      refine XS.aloadN X15.here hx rfl (hb hby at_97) rfl rfl ?_
      show Steps _ _ _ (T15.setTop (mkF m 98 #[vI p1, vI 6, vR s_MAP, vI 0] [iR s_MAP])) _
      refine st16.trans ?_
      show Steps _ _ _ (T16.setTop (mkF m 101 #[vI p1, vI 6, vR s_MAP, vI 0] [iI 0])) _
      refine XS.iloadN X16.here hx rfl (hb hby at_101) rfl ?_
      show Steps _ _ _ (T16.setTop (mkF m 102 #[vI p1, vI 6, vR s_MAP, vI 0] [iI 0, iI 0])) _
      refine XS.icmpNo X16.here hx rfl (hb hby at_102) rfl (teq (by decide : (0 : Int32) = (0 : Int32))).2 ?_
      show Steps _ _ _ (T16.setTop (mkF m 105 #[vI p1, vI 6, vR s_MAP, vI 0] [])) _
      refine XS.iconst X16.here hx rfl (hb hby at_105) ?_
      show Steps _ _ _ (T16.setTop (mkF m 106 #[vI p1, vI 6, vR s_MAP, vI 0] [iI 1])) _
      refine XS.goto X16.here hx rfl (pc0 := 106) (pc' := 110) rfl (hb hby at_106) (by decide) (by decide) ?_
      show Steps _ _ _ (T16.setTop (mkF m 110 #[vI p1, vI 6, vR s_MAP, vI 0] [iI 1])) _
      exact retN X16 hx (t := .boolean) Bd.returns (by simp) (hb hby at_110) hr
    · show Q0 Z p1 s_NULL s_INTEGER s_FLOAT s_LIST s_MAP s_STRING s_BOOLEAN h0 _ T16.heap _
      rw [e16]
      exact ⟨rfl, rfl, rfl⟩
set_option maxRecDepth 65536 in
set_option maxHeartbeats 40000000 in
theorem comes_1 {Post : Tables → Env → Array Value → State → Outcome → State → Prop} (hpost : ∀ tb e args s v u, (limb_1_1.after args s (.returned v) u = true ∧ limb_1_2.after args s (.returned v) u = true ∧ True) → FrameEnd s (.returned v) u (Jvm.fieldLocs frame_1_writes args s ++ Jvm.arrayLocs frame_1_arrays args s ++ Jvm.staticLocs frame_1_statics s) 0 0 → Post tb e args s (.returned v) u) :
    ArmFor flags0 classFile x code maxLocals ret World_1 tables_1 room_1 Calls_1 rest_1 Pre_1 Post := by
  intro l hfl _ _ p e ha hc hk s m args below hf hA hF happ hP
  obtain ⟨hcalls, hrest, hpre⟩ := hP
  obtain ⟨-, -, -, hnamed, -, -, -, hat⟩ := (Spec.applies_iff hf).mp happ
  obtain ⟨hg, hn⟩ := and_e (Cond.before_iff.mp (show (Jvm.Cond.and given_1 narrow_1).before args s = true from hpre))
  obtain ⟨gc, gr0⟩ := and_e hg
  obtain ⟨w0, rfl⟩ : ∃ w0 : Value, args = #[w0] := by
    have hs : args.size = 1 := by simpa [Cond.value, given_1] using gc
    obtain ⟨L⟩ := args
    match L, hs with
    | [w0], _ => exact ⟨w0, rfl⟩
  have hw := fun d (hd : d ∈ tables_1) => atoms_spec (ws := Jvm.Cond.code x code maxLocals ret :: tables_1) hat d (List.mem_cons_of_mem _ hd)
  have hfit : Fit s := fun {y c} hc i hi => by
    obtain ⟨ha, rfl⟩ := Array.getElem?_eq_some_iff.mp hc
    have q := List.all_eq_true.mp ((Array.all_eq_true_iff_forall_mem.mp hF) _ (Array.getElem_mem ha)) i (List.mem_range.mpr hi)
    simpa [Array.getElem?_eq_getElem hi] using q
  obtain ⟨i0, ei0⟩ := is_v gr0
  obtain rfl : w0 = (.int i0) := Option.some.inj ei0
  obtain ⟨u0, t0⟩ := and_e hn
  obtain ⟨u1, t1⟩ := and_e t0
  obtain ⟨u2, t2⟩ := and_e t1
  obtain ⟨u3, t3⟩ := and_e t2
  obtain ⟨u4, t4⟩ := and_e t3
  obtain ⟨u5, t5⟩ := and_e t4
  obtain ⟨u6, t6⟩ := and_e t5
  obtain ⟨u7, t7⟩ := and_e t6
  obtain ⟨u8, t8⟩ := and_e t7
  obtain ⟨u9, t9⟩ := and_e t8
  obtain ⟨u10, t10⟩ := and_e t9
  obtain ⟨u11, t11⟩ := and_e t10
  obtain ⟨u12, t12⟩ := and_e t11
  have u13 := t12
  obtain ⟨s_NULL, ev_NULL⟩ := exa_v u0
  have S_NULL : Sta s s.heap "com/example/nullwise/nullwise/Value$Type" "NULL" "Lcom/example/nullwise/nullwise/Value$Type;" (.ref s_NULL) := Sta.start ev_NULL (Or.inr ⟨(hw _ (List.mem_of_getElem? (i := 2) rfl)), (hw _ (List.mem_of_getElem? (i := 3) rfl))⟩)
  have E_NULL : Exa s s.heap s_NULL "com/example/nullwise/nullwise/Value$Type" := Exa.start ev_NULL u0
  obtain ⟨s_INTEGER, ev_INTEGER⟩ := exa_v u1
  have S_INTEGER : Sta s s.heap "com/example/nullwise/nullwise/Value$Type" "INTEGER" "Lcom/example/nullwise/nullwise/Value$Type;" (.ref s_INTEGER) := Sta.start ev_INTEGER (Or.inr ⟨(hw _ (List.mem_of_getElem? (i := 2) rfl)), (hw _ (List.mem_of_getElem? (i := 10) rfl))⟩)
  have E_INTEGER : Exa s s.heap s_INTEGER "com/example/nullwise/nullwise/Value$Type" := Exa.start ev_INTEGER u1
  obtain ⟨s_FLOAT, ev_FLOAT⟩ := exa_v u4
  have S_FLOAT : Sta s s.heap "com/example/nullwise/nullwise/Value$Type" "FLOAT" "Lcom/example/nullwise/nullwise/Value$Type;" (.ref s_FLOAT) := Sta.start ev_FLOAT (Or.inr ⟨(hw _ (List.mem_of_getElem? (i := 2) rfl)), (hw _ (List.mem_of_getElem? (i := 12) rfl))⟩)
  have E_FLOAT : Exa s s.heap s_FLOAT "com/example/nullwise/nullwise/Value$Type" := Exa.start ev_FLOAT u4
  obtain ⟨s_LIST, ev_LIST⟩ := exa_v u6
  have S_LIST : Sta s s.heap "com/example/nullwise/nullwise/Value$Type" "LIST" "Lcom/example/nullwise/nullwise/Value$Type;" (.ref s_LIST) := Sta.start ev_LIST (Or.inr ⟨(hw _ (List.mem_of_getElem? (i := 2) rfl)), (hw _ (List.mem_of_getElem? (i := 15) rfl))⟩)
  have E_LIST : Exa s s.heap s_LIST "com/example/nullwise/nullwise/Value$Type" := Exa.start ev_LIST u6
  obtain ⟨s_MAP, ev_MAP⟩ := exa_v u8
  have S_MAP : Sta s s.heap "com/example/nullwise/nullwise/Value$Type" "MAP" "Lcom/example/nullwise/nullwise/Value$Type;" (.ref s_MAP) := Sta.start ev_MAP (Or.inr ⟨(hw _ (List.mem_of_getElem? (i := 2) rfl)), (hw _ (List.mem_of_getElem? (i := 17) rfl))⟩)
  have E_MAP : Exa s s.heap s_MAP "com/example/nullwise/nullwise/Value$Type" := Exa.start ev_MAP u8
  obtain ⟨s_STRING, ev_STRING⟩ := exa_v u10
  have S_STRING : Sta s s.heap "com/example/nullwise/nullwise/Value$Type" "STRING" "Lcom/example/nullwise/nullwise/Value$Type;" (.ref s_STRING) := Sta.start ev_STRING (Or.inr ⟨(hw _ (List.mem_of_getElem? (i := 2) rfl)), (hw _ (List.mem_of_getElem? (i := 19) rfl))⟩)
  have E_STRING : Exa s s.heap s_STRING "com/example/nullwise/nullwise/Value$Type" := Exa.start ev_STRING u10
  obtain ⟨s_BOOLEAN, ev_BOOLEAN⟩ := exa_v u12
  have S_BOOLEAN : Sta s s.heap "com/example/nullwise/nullwise/Value$Type" "BOOLEAN" "Lcom/example/nullwise/nullwise/Value$Type;" (.ref s_BOOLEAN) := Sta.start ev_BOOLEAN (Or.inr ⟨(hw _ (List.mem_of_getElem? (i := 2) rfl)), (hw _ (List.mem_of_getElem? (i := 22) rfl))⟩)
  have E_BOOLEAN : Exa s s.heap s_BOOLEAN "com/example/nullwise/nullwise/Value$Type" := Exa.start ev_BOOLEAN u12
  have F_ordinal_NULL : Fld s s.heap s_NULL "java/lang/Enum" "ordinal" "I" (.int (0 : Int32)) := own_fldEq ev_NULL u2
  have F_ordinal_INTEGER : Fld s s.heap s_INTEGER "java/lang/Enum" "ordinal" "I" (.int (2 : Int32)) := own_fldEq ev_INTEGER u3
  have F_ordinal_FLOAT : Fld s s.heap s_FLOAT "java/lang/Enum" "ordinal" "I" (.int (3 : Int32)) := own_fldEq ev_FLOAT u5
  have F_ordinal_LIST : Fld s s.heap s_LIST "java/lang/Enum" "ordinal" "I" (.int (5 : Int32)) := own_fldEq ev_LIST u7
  have F_ordinal_MAP : Fld s s.heap s_MAP "java/lang/Enum" "ordinal" "I" (.int (6 : Int32)) := own_fldEq ev_MAP u9
  have F_ordinal_STRING : Fld s s.heap s_STRING "java/lang/Enum" "ordinal" "I" (.int (4 : Int32)) := own_fldEq ev_STRING u11
  have F_ordinal_BOOLEAN : Fld s s.heap s_BOOLEAN "java/lang/Enum" "ordinal" "I" (.int (1 : Int32)) := own_fldEq ev_BOOLEAN u13
  obtain ⟨n, o, h1, h2, h3, _, L, rfl, Qv, hq⟩ := rm0 l s _ hw tables_1 i0 s_NULL s_INTEGER s_FLOAT s_LIST s_MAP s_STRING s_BOOLEAN s.heap S_NULL E_NULL S_INTEGER E_INTEGER F_ordinal_NULL F_ordinal_INTEGER S_FLOAT E_FLOAT F_ordinal_FLOAT S_LIST E_LIST F_ordinal_LIST S_MAP E_MAP F_ordinal_MAP S_STRING E_STRING F_ordinal_STRING S_BOOLEAN E_BOOLEAN F_ordinal_BOOLEAN p e ha hc hk s m _ below hf ((Spec.applies_iff_loose hf).mp happ).1 ⟨rfl, State.Warmed39.refl s, rfl⟩ trivial
  obtain ⟨rfl, rfl, -⟩ := Qv
  have N := Fr.nil s.heap.size
  refine ⟨n, _, h1, h2, h3, hpost _ _ _ _ _ _ ⟨Cond.after_iff.mpr rfl, Cond.after_iff.mpr (eq_i res_at (Term.int_eval (1)) rfl), trivial⟩ ⟨hq.1, hq.2.1, (hq.2.2.sift fun y hy => Or.inr (N y hy)).mono (by decide) (by decide)⟩⟩
theorem main_1_1 : Claimed_1_1 := comes_1 fun _ _ _ _ _ _ h hF => ⟨h.1, hF⟩
theorem main_1_2 : Claimed_1_2 := comes_1 fun _ _ _ _ _ _ h hF => ⟨h.2.1, hF⟩
end Jvm.Pilot.@@N@@
namespace Jvm.Pilot.@@N@@
open Jvm Jvm.ClassFile Sem Op Lib Jvm.Free Jvm.Stand Jvm.Pilot.@@N@@.Jvm.D
/-! MADE BY PROGRAM (witnessworld.py) out of the Statement's table words and the real class files: 12 classes; the members and pool entries that the words name. The judged class is class 1, her method 1. -/
namespace start1
open Jvm.ClassFile
def u (s : String) : CpInfo := .utf8 (stringToUtf16 s)
/-- a pool by its gaps: so many unusable entries, then the entry; so many at the end -/
def gap : Nat → List CpInfo → List CpInfo
  | 0, r => r
  | n + 1, r => .unusable :: gap n r
def poolList (es : List (Nat × CpInfo)) (last : Nat) : List CpInfo := es.foldr (fun e r => gap e.1 (e.2 :: r)) (gap last [])
def pool (es : List (Nat × CpInfo)) (last : Nat) : Array CpInfo := ⟨poolList es last⟩
def fileOf (pool : Array CpInfo) (this : Nat) (attrs : Array Attribute := #[]) (ms : Array MethodInfo := #[]) (fl : Nat := 33) (sup : Nat := 0) (ifs : Array Nat := #[]) (fds : Array FieldInfo := #[]) : ClassFile where
  minorVersion := 0
  majorVersion := 65
  constantPool := pool
  accessFlags := fl
  thisClass := this
  superClass := sup
  interfaces := ifs
  fields := fds
  methods := ms
  attributes := attrs
def plain (name : String) (sup : Option ClassId) : Class where
  name := name
  kind := .ordinary
  loader := none
  accessFlags := 33
  super := sup
  interfaces := #[]
  cf := none
  fields := #[]
  methods := #[]
  instanceTypes := #[]
  staticTypes := #[]
  resolved := #[]
  callSites := []
  init := .initialized
  statics := none
  mirror := none

def pool0 : Array CpInfo := pool [(5, u "<init>"), (0, u "()V"), (1, .class_ 10), (1, u "java/lang/Object")] 113

def k0m0 : Method := { name := "<init>", desc := "()V", sig := { parameters := [], returnType := none }, accessFlags := 1, code := none }
/-- java/lang/Object -/
def k0 : Class := { plain "java/lang/Object" none with
  accessFlags := 33
  interfaces := #[]
  cf := some (fileOf pool0 8 #[] #[{ accessFlags := 1, nameIndex := 5, descriptorIndex := 6, attributes := #[] }] 33 0 #[] #[])
  fields := #[]
  methods := #[k0m0]
  instanceTypes := #[]
  staticTypes := #[]
  resolved := Array.replicate 124 none
  statics := none }

def pool1 : Array CpInfo := pool [(2, .class_ 4), (1, u "java/lang/Object"), (0, u "<init>"), (0, u "()V"), (0, .integer 2147483647), (0, .fieldref 9 10), (0, .class_ 11), (0, .nameAndType 12 13), (0, u "com/example/nullwise/nullwise/Value$Type"), (0, u "NULL"), (0, u "Lcom/example/nullwise/nullwise/Value$Type;"), (0, .fieldref 9 15), (0, .nameAndType 16 13), (0, u "BOOLEAN"), (0, .fieldref 9 18), (0, .nameAndType 19 13), (0, u "INTEGER"), (0, .fieldref 9 21), (0, .nameAndType 22 13), (0, u "FLOAT"), (0, .fieldref 9 24), (0, .nameAndType 25 13), (0, u "STRING"), (0, .fieldref 9 27), (0, .nameAndType 28 13), (0, u "LIST"), (0, .fieldref 9 30), (0, .nameAndType 31 13), (0, u "MAP"), (0, .methodref 9 33), (0, .nameAndType 34 35), (0, u "isNumber"), (0, u "()Z"), (0, .class_ 37), (0, u "com/example/nullwise/nullwise/TypeIsNumberPinLaw"), (2, u "law"), (0, u "(I)Z")] 7

def k1m0 : Method := { name := "<init>", desc := "()V", sig := { parameters := [], returnType := none }, accessFlags := 2, code := none }
def k1c1 : Code := { maxStack := 2, maxLocals := 4, code := code, exceptionTable := #[], attributes := #[] }
def k1m1 : Method := { name := "law", desc := "(I)Z", sig := { parameters := [.int], returnType := some .boolean }, accessFlags := 9, code := some k1c1 }
/-- com/example/nullwise/nullwise/TypeIsNumberPinLaw -/
def k1 : Class := { plain "com/example/nullwise/nullwise/TypeIsNumberPinLaw" (some 0) with
  accessFlags := 49
  interfaces := #[]
  cf := some (fileOf pool1 36 #[] #[{ accessFlags := 2, nameIndex := 5, descriptorIndex := 6, attributes := #[] }, { accessFlags := 9, nameIndex := 40, descriptorIndex := 41, attributes := #[] }] 49 2 #[] #[])
  fields := #[]
  methods := #[k1m0, k1m1]
  instanceTypes := #[]
  staticTypes := #[]
  resolved := Array.replicate 49 none
  statics := none }

def pool2 : Array CpInfo := pool [(1, .class_ 2), (0, u "java/lang/constant/Constable"), (0, .class_ 4), (0, u "java/lang/Object")] 6

/-- java/lang/constant/Constable -/
def k2 : Class := { plain "java/lang/constant/Constable" (some 0) with
  accessFlags := 1537
  interfaces := #[]
  cf := some (fileOf pool2 1 #[] #[] 1537 3 #[] #[])
  fields := #[]
  methods := #[]
  instanceTypes := #[]
  staticTypes := #[]
  resolved := Array.replicate 11 none
  statics := none }

def pool3 : Array CpInfo := pool [(1, .class_ 2), (0, u "java/lang/Comparable"), (0, .class_ 4), (0, u "java/lang/Object")] 7

/-- java/lang/Comparable -/
def k3 : Class := { plain "java/lang/Comparable" (some 0) with
  accessFlags := 1537
  interfaces := #[]
  cf := some (fileOf pool3 1 #[] #[] 1537 3 #[] #[])
  fields := #[]
  methods := #[]
  instanceTypes := #[]
  staticTypes := #[]
  resolved := Array.replicate 12 none
  statics := none }

def pool4 : Array CpInfo := pool [(1, .class_ 2), (0, u "java/io/Serializable"), (0, .class_ 4), (0, u "java/lang/Object")] 2

/-- java/io/Serializable -/
def k4 : Class := { plain "java/io/Serializable" (some 0) with
  accessFlags := 1537
  interfaces := #[]
  cf := some (fileOf pool4 1 #[] #[] 1537 3 #[] #[])
  fields := #[]
  methods := #[]
  instanceTypes := #[]
  staticTypes := #[]
  resolved := Array.replicate 7 none
  statics := none }

def pool5 : Array CpInfo := pool [(2, .class_ 4), (1, u "java/lang/Enum"), (0, u "name"), (0, u "Ljava/lang/String;"), (2, u "ordinal"), (0, u "I"), (1, .class_ 14), (1, u "java/lang/Object"), (4, u "hash"), (86, .class_ 108), (1, u "java/lang/Enum$EnumDesc"), (2, .class_ 112), (0, u "java/lang/constant/Constable"), (0, .class_ 114), (0, u "java/lang/Comparable"), (0, .class_ 116), (0, u "java/io/Serializable")] 87

/-- java/lang/Enum -/
def k5 : Class := { plain "java/lang/Enum" (some 0) with
  accessFlags := 1057
  interfaces := #[2, 3, 4]
  cf := some (fileOf pool5 2 #[.nestMembers #[106]] #[] 1057 12 #[111, 113, 115] #[{ accessFlags := 18, nameIndex := 5, descriptorIndex := 6, attributes := #[] }, { accessFlags := 18, nameIndex := 9, descriptorIndex := 10, attributes := #[] }, { accessFlags := 2, nameIndex := 19, descriptorIndex := 10, attributes := #[] }])
  fields := #[{ name := "name", type := (.object "java/lang/String"), accessFlags := 18, slot := 0, constantValue := 0 }, { name := "ordinal", type := .int, accessFlags := 18, slot := 1, constantValue := 0 }, { name := "hash", type := .int, accessFlags := 2, slot := 2, constantValue := 0 }]
  methods := #[]
  instanceTypes := #[(.object "java/lang/String"), .int, .int]
  staticTypes := #[]
  resolved := Array.replicate 204 none
  statics := none }

def pool6 : Array CpInfo := pool [(1, .class_ 2), (0, u "com/example/nullwise/nullwise/Value$Type"), (2, u "NULL"), (0, u "Lcom/example/nullwise/nullwise/Value$Type;"), (2, u "BOOLEAN"), (0, .fieldref 1 11), (0, .nameAndType 12 6), (0, u "INTEGER"), (0, .fieldref 1 14), (0, .nameAndType 15 6), (0, u "FLOAT"), (2, u "STRING"), (2, u "LIST"), (2, u "MAP"), (2, u "$VALUES"), (0, u "[Lcom/example/nullwise/nullwise/Value$Type;"), (6, .class_ 37), (1, u "java/lang/Enum"), (25, u "isNumber"), (0, u "()Z"), (6, .class_ 72), (0, u "com/example/nullwise/nullwise/Value")] 2

def k6c0 : Code := { maxStack := 2, maxLocals := 1, code := prog_102_method_4_code, exceptionTable := #[], attributes := #[] }
def k6m0 : Method := { name := "isNumber", desc := "()Z", sig := { parameters := [], returnType := some .boolean }, accessFlags := 0, code := some k6c0 }
/-- com/example/nullwise/nullwise/Value$Type -/
def k6 : Class := { plain "com/example/nullwise/nullwise/Value$Type" (some 5) with
  accessFlags := 16433
  interfaces := #[]
  cf := some (fileOf pool6 1 #[.nestHost 71] #[{ accessFlags := 0, nameIndex := 63, descriptorIndex := 64, attributes := #[] }] 16433 35 #[] #[{ accessFlags := 16409, nameIndex := 5, descriptorIndex := 6, attributes := #[] }, { accessFlags := 16409, nameIndex := 9, descriptorIndex := 6, attributes := #[] }, { accessFlags := 16409, nameIndex := 12, descriptorIndex := 6, attributes := #[] }, { accessFlags := 16409, nameIndex := 15, descriptorIndex := 6, attributes := #[] }, { accessFlags := 16409, nameIndex := 18, descriptorIndex := 6, attributes := #[] }, { accessFlags := 16409, nameIndex := 21, descriptorIndex := 6, attributes := #[] }, { accessFlags := 16409, nameIndex := 24, descriptorIndex := 6, attributes := #[] }, { accessFlags := 4122, nameIndex := 27, descriptorIndex := 28, attributes := #[] }])
  fields := #[{ name := "NULL", type := (.object "com/example/nullwise/nullwise/Value$Type"), accessFlags := 16409, slot := 0, constantValue := 0 }, { name := "BOOLEAN", type := (.object "com/example/nullwise/nullwise/Value$Type"), accessFlags := 16409, slot := 1, constantValue := 0 }, { name := "INTEGER", type := (.object "com/example/nullwise/nullwise/Value$Type"), accessFlags := 16409, slot := 2, constantValue := 0 }, { name := "FLOAT", type := (.object "com/example/nullwise/nullwise/Value$Type"), accessFlags := 16409, slot := 3, constantValue := 0 }, { name := "STRING", type := (.object "com/example/nullwise/nullwise/Value$Type"), accessFlags := 16409, slot := 4, constantValue := 0 }, { name := "LIST", type := (.object "com/example/nullwise/nullwise/Value$Type"), accessFlags := 16409, slot := 5, constantValue := 0 }, { name := "MAP", type := (.object "com/example/nullwise/nullwise/Value$Type"), accessFlags := 16409, slot := 6, constantValue := 0 }, { name := "$VALUES", type := (.array (.object "com/example/nullwise/nullwise/Value$Type")), accessFlags := 4122, slot := 7, constantValue := 0 }]
  methods := #[k6m0]
  instanceTypes := #[(.object "java/lang/String"), .int, .int]
  staticTypes := #[(.object "com/example/nullwise/nullwise/Value$Type"), (.object "com/example/nullwise/nullwise/Value$Type"), (.object "com/example/nullwise/nullwise/Value$Type"), (.object "com/example/nullwise/nullwise/Value$Type"), (.object "com/example/nullwise/nullwise/Value$Type"), (.object "com/example/nullwise/nullwise/Value$Type"), (.object "com/example/nullwise/nullwise/Value$Type"), (.array (.object "com/example/nullwise/nullwise/Value$Type"))]
  resolved := Array.replicate 75 none
  statics := some 0 }

def pool7 : Array CpInfo := pool [(1, u "java/lang/Cloneable"), (0, .class_ 1), (0, u "java/lang/Object"), (0, .class_ 3)] 3

/-- java/lang/Cloneable -/
def k7 : Class := { plain "java/lang/Cloneable" (some 0) with
  accessFlags := 1537
  interfaces := #[]
  cf := some (fileOf pool7 2 #[] #[] 1537 4 #[] #[])
  fields := #[]
  methods := #[]
  instanceTypes := #[]
  staticTypes := #[]
  resolved := Array.replicate 8 none
  statics := none }

/-- the primitive byte -/
def k8 : Class := { plain "byte" none with kind := .primitive 'B', accessFlags := 0x411 }
/-- [B -/
def k9 : Class := { plain "[B" (some 0) with kind := .array 8 .byte, interfaces := #[7, 4], accessFlags := 1041 }

/-- the primitive int -/
def k10 : Class := { plain "int" none with kind := .primitive 'I', accessFlags := 0x411 }
/-- [I -/
def k11 : Class := { plain "[I" (some 0) with kind := .array 10 .int, interfaces := #[7, 4], accessFlags := 1041 }

def heap : Heap := #[{ cls := 6, slots := #[.ref 1, .ref 7, .ref 2, .ref 3, .ref 6, .ref 4, .ref 5, .null], vm := .statics 6 },
  { cls := 6, slots := #[.null, .int 0, .int 0], vm := .none },
  { cls := 6, slots := #[.null, .int 2, .int 0], vm := .none },
  { cls := 6, slots := #[.null, .int 3, .int 0], vm := .none },
  { cls := 6, slots := #[.null, .int 5, .int 0], vm := .none },
  { cls := 6, slots := #[.null, .int 6, .int 0], vm := .none },
  { cls := 6, slots := #[.null, .int 4, .int 0], vm := .none },
  { cls := 6, slots := #[.null, .int 1, .int 0], vm := .none }]
def classes : Array Class := #[k0, k1, k2, k3, k4, k5, k6, k7, k8, k9, k10, k11]
def interned : List (Array UInt16 × Addr) := []
def slotsUsed : Nat := 29
def theMethod : MethodId := ⟨1, 1⟩
def args0 : Array Value := #[.int 5]
def aboutOver (below : List Frame) : State where
  vm := { classes := classes, interned := interned.toArray }
  heap := heap
  slotsUsed := slotsUsed
  threads := #[{ frames := .invoking theMethod args0 :: below }]
def below0 : List Frame := [.native { method := ⟨0, 0⟩, args := #[] }]
def about1 : State := aboutOver below0
def p0 : Program := .bare "" "" ""
def e0 : Env := launch0.env 0 0 0
theorem w_frames : about1.frames = Frame.invoking theMethod args0 :: below0 := rfl
set_option maxRecDepth 65536 in
theorem w_args : argsFit about1.vm theMethod args0 = true := by decide +kernel
set_option maxRecDepth 65536 in
theorem w_heap : heapFits about1 = true := by decide +kernel
set_option maxRecDepth 65536 in
theorem w_runnable : about1.curStatus? = some .runnable := by decide +kernel
set_option maxRecDepth 65536 in
theorem w_alone : about1.alone = true := by decide +kernel
set_option maxRecDepth 65536 in
theorem w_named : about1.methodNamed? x = some theMethod := by decide +kernel
set_option maxRecDepth 65536 in
theorem w_hears : about1.hears theMethod below0 = true := by decide +kernel
set_option maxRecDepth 65536 in
theorem w_ripe : about1.ripe theMethod args0 below0 = true := by decide +kernel
theorem w_running : about1.status = .running := rfl
set_option maxRecDepth 65536 in
theorem w_room : about1.hasRoom e0.platform room_1 = true :=
  launch0.hasRoom_least _ room_1 (by decide +kernel) (by decide +kernel) (by decide +kernel) (by decide +kernel) (by decide +kernel) (by decide +kernel)
theorem allAtoms_all (ts : List Jvm.Cond) (a : Array Jvm.Value) (st : Jvm.State) : (allAtoms ts).before a st = ts.all (fun c => c.before a st) := by
  induction ts with
  | nil => rfl
  | cons c t ih =>
    show (Jvm.Cond.and c (allAtoms t)).before a st = _
    rw [Jvm.Cond.before_and, ih, List.all_cons]
def words1 : List Jvm.Cond := Jvm.Cond.code x code maxLocals ret :: tables_1
/-- a 'code' word, met by the world's own term for the bytes: nothing is compared byte by byte -/
theorem code_word {y : MethodName} {bytes : ByteArray} {mx : Nat} {rt : Option FieldType} {a : Array Value} {s : State} {m : MethodId} {meth : Method} {c : Code} (h1 : s.methodNamed? y = some m) (h2 : s.vm.method? m = some meth) (h3 : meth.code = some c) (h4 : c.code = bytes)
    (h5 : (c.maxLocals == mx && c.exceptionTable.isEmpty && decide (c.maxStack ≤ mostOperands) && decide (meth.sig.returnType = rt) && !meth.locks && decide (parseMethodDescriptor y.desc = some meth.sig)) = true) : (Jvm.Cond.code y bytes mx rt).before a s = true := by
  simp only [Bool.and_eq_true, beq_iff_eq, Bool.not_eq_true', decide_eq_true_eq] at h5
  obtain ⟨⟨⟨⟨⟨g1, g2⟩, g3⟩, g4⟩, g5⟩, g6⟩ := h5
  simp [Cond.before, Cond.holds, Cond.value, h1, h2, h3, h4, g1, g2, g3, g4, g5, g6]
def isCode : Jvm.Cond → Bool
  | .code _ _ _ _ => true
  | _ => false
theorem all_split {L : List Jvm.Cond} {P : Jvm.Cond → Bool} (h1 : L.all (fun c => isCode c || P c) = true) (h2 : ∀ c ∈ L.filter isCode, P c = true) : L.all P = true := by
  refine List.all_eq_true.mpr fun c hc => ?_
  have h := List.all_eq_true.mp h1 c hc
  rcases Bool.eq_false_or_eq_true (isCode c) with hi | hi
  · exact h2 c (List.mem_filter.mpr ⟨hc, hi⟩)
  · simpa [hi] using h
set_option maxRecDepth 65536 in
theorem w_c0 : (Jvm.Cond.code x code maxLocals ret).before args0 about1 = true := code_word (m := ⟨1, 1⟩) (meth := k1m1) (c := k1c1) (by decide +kernel) rfl rfl rfl (by decide +kernel)
set_option maxRecDepth 65536 in
theorem w_c1 : (Jvm.Cond.code ({ cls := "com/example/nullwise/nullwise/Value$Type", name := "isNumber", desc := "()Z" } : Jvm.MethodName) prog_102_method_4_code (1 : Nat) (Option.some Jvm.ClassFile.FieldType.boolean)).before args0 about1 = true := code_word (m := ⟨6, 0⟩) (meth := k6m0) (c := k6c0) (by decide +kernel) rfl rfl rfl (by decide +kernel)
def codes1 : List Jvm.Cond := [Jvm.Cond.code x code maxLocals ret, Jvm.Cond.code ({ cls := "com/example/nullwise/nullwise/Value$Type", name := "isNumber", desc := "()Z" } : Jvm.MethodName) prog_102_method_4_code (1 : Nat) (Option.some Jvm.ClassFile.FieldType.boolean)]
set_option maxRecDepth 65536 in
theorem codes_eq : words1.filter isCode = codes1 := rfl
theorem w_codes : ∀ c ∈ words1.filter isCode, c.before args0 about1 = true := by
  rw [codes_eq]
  intro c hc
  simp only [codes1, List.mem_cons, List.not_mem_nil, or_false] at hc
  rcases hc with rfl | rfl
  · exact w_c0
  · exact w_c1
set_option maxRecDepth 65536 in
theorem w_t1 : words1.all (fun c => isCode c || c.before args0 about1) = true := by decide +kernel
theorem w_tables : (allAtoms (Jvm.Cond.code x code maxLocals ret :: tables_1)).before args0 about1 = true := by
  rw [allAtoms_all]
  show words1.all (fun c => c.before args0 about1) = true
  refine all_split ?_ w_codes
  rw [w_t1]
set_option maxRecDepth 65536 in
theorem w_case : (Jvm.Cond.and given_1 narrow_1).before args0 about1 = true := by decide +kernel
theorem w_applies : (headSpec (Jvm.Cond.code x code maxLocals ret :: tables_1) room_1).applies x e0.platform about1 = true :=
  (Spec.applies_iff w_frames).mpr ⟨w_running, w_runnable, w_alone, w_named, w_hears, w_ripe, w_room, w_tables⟩
theorem atStart : AtStart classFile x code maxLocals ret World_1 tables_1 room_1 Calls_1 rest_1 Pre_1 launch0 p0 e0 about1 theMethod args0 below0 :=
  ⟨lists_1, trivial, launch0.admits_env _ _ _, launch0.least_env, fairChoices_fair.cas, fairChoices_fair.clock, w_frames, w_args, w_heap, w_applies, trivial, trivial, w_case⟩
end start1
theorem witness_1 : WitnessClaimed_1 := ⟨start1.p0, start1.e0, start1.about1, start1.theMethod, start1.args0, start1.below0, start1.atStart⟩
end Jvm.Pilot.@@N@@
