import JvmDerived
import JvmDerived.Pilot.@@N@@Statement
import JvmDerived.Pilot.@@N@@Code
set_option linter.unusedVariables false
set_option linter.unusedSimpArgs false
namespace Jvm.RoadKit
open Sem ClassFile Op Lib Jvm.Stand Jvm.Free Jvm.LawKit
section New
variable {p : Program} {l : Launch} {e : Env} {R : Room} {s : State} {m : MethodId} {args : Array Value} {below : List Frame} {meth : Method} {c : Code} {T : State} {locs : List Loc} {cells slots : Nat}
theorem retI (X : Stand p l e R s m args below meth c T locs cells slots) (hx : p.tables.exec = Jvm.exec) {pc : Nat} {Ls : Array Slot} {z : Int32} {rest : List Value} (hret : meth.sig.returnType = some .int) (hd : decode c.code pc = .ok (.ireturn, 1)) {fs : List Frame}
    (hl : ∀ (f : JFrame) (acts : List Action), f.method = m → f.locked = none → f.entered = [] → (doReturn e (T.setTop f) acts (some (.int z))).1 = T.setFrames fs) : Steps p.tables e below (T.setTop (mkF m pc Ls (.int z :: rest))) (T.setFrames fs) := by
  have hm' : T.vm.method? m = some meth := X.method'
  have hn : narrow .int (.int z) = .int z := rfl
  show Steps p.tables e below (T.setTop { method := m, pc := pc, locals := Ls, stack := _ :: rest, locked := none }) _
  jvm_step X.here [X.here.top, hx, hd, hm', hret, hn]
  first | (intro acts; rw [hl _ acts rfl rfl rfl]) | rw [hl _ _ rfl rfl rfl]
  exact Steps.refl _
abbrev vI (x : Int32) : Slot := .val (.int x)
abbrev vJ (x : Int64) : Slot := .val (.long x)
abbrev vR (x : Addr) : Slot := .val (.ref x)
abbrev iI (x : Int32) : Value := .int x
abbrev iJ (x : Int64) : Value := .long x
abbrev iR (x : Addr) : Value := .ref x
/-- from one frame to another over the same heap -/
def own_Mid (X : Stand p l e R s m args below meth c T locs cells slots) (h : Heap) (F F' : JFrame) : Prop :=
  ∃ T', Stand p l e R s m args below meth c T' locs cells slots ∧ T'.heap = h ∧ ∀ t, Steps p.tables e below (T'.setTop F') t → Steps p.tables e below (T.setTop F) t
end New
end Jvm.RoadKit
namespace Jvm.Pilot.@@N@@
open Jvm Jvm.ClassFile Sem Op Lib Jvm.Free Jvm.Stand Jvm.LawKit Jvm.RoadKit Bundle Jvm.Pilot.@@N@@.Jvm.D
theorem pd_0 : parseMethodDescriptor "(I)Z" = some ⟨[.int], some .boolean⟩ := by decide +kernel

theorem own_fldEq {s : State} {args : Array Value} {t : Term} {a : Addr} {C n d : String} {k : Int32} (ht : t.eval args s none [] s = some (.ref a)) (h : (Jvm.Cond.eq (Term.field t C n d) (Term.int k)).value args s none s [] = some true) : Fld s s.heap a C n d (.int k) := by
  obtain ⟨x, y, e1, e2, -, -⟩ := cmp_v (Or.inl h)
  have e3 : (Term.int k).eval args s none [] s = some (.int k) := Term.int_eval k
  obtain rfl : y = .int k := Option.some.inj (e2.symm.trans e3)
  have hx : x = .int k := by
    simp only [Cond.value, e1, e2] at h
    cases x <;> simp at h
    rw [h]
  subst hx
  exact Fld.start ((fld_at ht).symm.trans e1)

theorem own_rem (x y : Int32) (d : Int) (hy : y.toInt = d) (hd : 0 < d) : 0 ≤ ((x &&& 2147483647) % y).toInt ∧ ((x &&& 2147483647) % y).toInt < d := by
  have h0 : 0 ≤ (x &&& 2147483647).toInt := (c_and x 2147483647 (by decide)).1
  rw [(c_irem (x &&& 2147483647) y d hy).1 h0]
  exact ⟨Int.emod_nonneg _ (by omega), Int.emod_lt_of_pos _ hd⟩

theorem own_small8 (v : Int32) (h0 : 0 ≤ v.toInt) (h1 : v.toInt < 8) : v = 0 ∨ v = 1 ∨ v = 2 ∨ v = 3 ∨ v = 4 ∨ v = 5 ∨ v = 6 ∨ v = 7 := by
  have h : v.toInt = 0 ∨ v.toInt = 1 ∨ v.toInt = 2 ∨ v.toInt = 3 ∨ v.toInt = 4 ∨ v.toInt = 5 ∨ v.toInt = 6 ∨ v.toInt = 7 := by omega
  rcases h with h | h | h | h | h | h | h | h
  · exact Or.inl (Int32.toInt_inj.mp (h.trans (by decide)))
  · exact Or.inr (Or.inl (Int32.toInt_inj.mp (h.trans (by decide))))
  · exact Or.inr (Or.inr (Or.inl (Int32.toInt_inj.mp (h.trans (by decide)))))
  · exact Or.inr (Or.inr (Or.inr (Or.inl (Int32.toInt_inj.mp (h.trans (by decide))))))
  · exact Or.inr (Or.inr (Or.inr (Or.inr (Or.inl (Int32.toInt_inj.mp (h.trans (by decide)))))))
  · exact Or.inr (Or.inr (Or.inr (Or.inr (Or.inr (Or.inl (Int32.toInt_inj.mp (h.trans (by decide))))))))
  · exact Or.inr (Or.inr (Or.inr (Or.inr (Or.inr (Or.inr (Or.inl (Int32.toInt_inj.mp (h.trans (by decide)))))))))
  · exact Or.inr (Or.inr (Or.inr (Or.inr (Or.inr (Or.inr (Or.inr ((Int32.toInt_inj.mp (h.trans (by decide))))))))))

def own_tk_0 (p2 : Int32) : Int32 := (nar .boolean (if p2 < (1 : Int32) then (0 : Int32) else (if (1 : Int32) < p2 then (0 : Int32) else (1 : Int32))))
theorem d1_0 : decode prog_41_method_6_code 0 = .ok (.iload_n 1, 1) := by decide +kernel
theorem d1_1 : decode prog_41_method_6_code 1 = .ok (.aload_n 0, 1) := by decide +kernel
theorem d1_2 : decode prog_41_method_6_code 2 = .ok (.getfield 111, 3) := by decide +kernel
theorem d1_5 : decode prog_41_method_6_code 5 = .ok (.if_icmp .lt 15, 3) := by decide +kernel
theorem d1_8 : decode prog_41_method_6_code 8 = .ok (.iload_n 1, 1) := by decide +kernel
theorem d1_9 : decode prog_41_method_6_code 9 = .ok (.aload_n 0, 1) := by decide +kernel
theorem d1_10 : decode prog_41_method_6_code 10 = .ok (.getfield 115, 3) := by decide +kernel
theorem d1_13 : decode prog_41_method_6_code 13 = .ok (.if_icmp .gt 7, 3) := by decide +kernel
theorem d1_16 : decode prog_41_method_6_code 16 = .ok (.iconst 1, 1) := by decide +kernel
theorem d1_17 : decode prog_41_method_6_code 17 = .ok (.goto 4, 3) := by decide +kernel
theorem d1_20 : decode prog_41_method_6_code 20 = .ok (.iconst 0, 1) := by decide +kernel
theorem d1_21 : decode prog_41_method_6_code 21 = .ok (.ireturn, 1) := by decide +kernel
theorem pn_0 : plainName "com/example/nullwise/nullwise/Function" = true := by first | (simp [plainName, overriddenIn]; done) | decide +kernel
theorem ef_1_0 (m : MethodId) (x0 : Addr) (x1 : Int32) : entryFrame m #[(.ref x0), (.int x1)] 2 = mkF m 0 #[.val (.ref x0), .val (.int x1)] [] := by first | (simp [entryFrame, mkF, argsToLocals, Value.category]; done) | rfl
def Q1_0 (Z : State) (p2 : Int32) (s_ABS : Addr) (s_RANGE : Addr) (s_NVL2 : Addr) (s_ATLEASTNNONNULLS : Addr) (s_CONCAT : Addr) (s_IFNULL : Addr) (s_NULLIF : Addr) (s_COALESCE : Addr) (h0 : Heap) (v : Option Value) (h : Heap) (L : List Loc) : Prop := v = some (.int (own_tk_0 p2)) ∧ L = [] ∧ h = h0
set_option maxRecDepth 65536 in
set_option maxHeartbeats 40000000 in
theorem rm1_0 (l : Launch) (Z : State) (a0 : Array Value) (hw : ∀ d ∈ tables_1, d.before a0 Z = true) (ws : List Jvm.Cond) (p2 : Int32) (s_ABS : Addr) (s_RANGE : Addr) (s_NVL2 : Addr) (s_ATLEASTNNONNULLS : Addr) (s_CONCAT : Addr) (s_IFNULL : Addr) (s_NULLIF : Addr) (s_COALESCE : Addr) (h0 : Heap) (S_ABS : Sta Z h0 "com/example/nullwise/nullwise/Function" "ABS" "Lcom/example/nullwise/nullwise/Function;" (.ref s_ABS)) (E_ABS : Exa Z h0 s_ABS "com/example/nullwise/nullwise/Function") (F_fewestArguments_ABS : Fld Z h0 s_ABS "com/example/nullwise/nullwise/Function" "fewestArguments" "I" (.int (1 : Int32))) (F_mostArguments_ABS : Fld Z h0 s_ABS "com/example/nullwise/nullwise/Function" "mostArguments" "I" (.int (1 : Int32))) (S_RANGE : Sta Z h0 "com/example/nullwise/nullwise/Function" "RANGE" "Lcom/example/nullwise/nullwise/Function;" (.ref s_RANGE)) (E_RANGE : Exa Z h0 s_RANGE "com/example/nullwise/nullwise/Function") (F_fewestArguments_RANGE : Fld Z h0 s_RANGE "com/example/nullwise/nullwise/Function" "fewestArguments" "I" (.int (2 : Int32))) (F_mostArguments_RANGE : Fld Z h0 s_RANGE "com/example/nullwise/nullwise/Function" "mostArguments" "I" (.int (3 : Int32))) (S_NVL2 : Sta Z h0 "com/example/nullwise/nullwise/Function" "NVL2" "Lcom/example/nullwise/nullwise/Function;" (.ref s_NVL2)) (E_NVL2 : Exa Z h0 s_NVL2 "com/example/nullwise/nullwise/Function") (F_fewestArguments_NVL2 : Fld Z h0 s_NVL2 "com/example/nullwise/nullwise/Function" "fewestArguments" "I" (.int (3 : Int32))) (S_ATLEASTNNONNULLS : Sta Z h0 "com/example/nullwise/nullwise/Function" "ATLEASTNNONNULLS" "Lcom/example/nullwise/nullwise/Function;" (.ref s_ATLEASTNNONNULLS)) (E_ATLEASTNNONNULLS : Exa Z h0 s_ATLEASTNNONNULLS "com/example/nullwise/nullwise/Function") (F_fewestArguments_ATLEASTNNONNULLS : Fld Z h0 s_ATLEASTNNONNULLS "com/example/nullwise/nullwise/Function" "fewestArguments" "I" (.int (1 : Int32))) (S_CONCAT : Sta Z h0 "com/example/nullwise/nullwise/Function" "CONCAT" "Lcom/example/nullwise/nullwise/Function;" (.ref s_CONCAT)) (E_CONCAT : Exa Z h0 s_CONCAT "com/example/nullwise/nullwise/Function") (F_fewestArguments_CONCAT : Fld Z h0 s_CONCAT "com/example/nullwise/nullwise/Function" "fewestArguments" "I" (.int (1 : Int32))) (F_mostArguments_CONCAT : Fld Z h0 s_CONCAT "com/example/nullwise/nullwise/Function" "mostArguments" "I" (.int (2147483647 : Int32))) (S_IFNULL : Sta Z h0 "com/example/nullwise/nullwise/Function" "IFNULL" "Lcom/example/nullwise/nullwise/Function;" (.ref s_IFNULL)) (E_IFNULL : Exa Z h0 s_IFNULL "com/example/nullwise/nullwise/Function") (F_fewestArguments_IFNULL : Fld Z h0 s_IFNULL "com/example/nullwise/nullwise/Function" "fewestArguments" "I" (.int (2 : Int32))) (F_mostArguments_IFNULL : Fld Z h0 s_IFNULL "com/example/nullwise/nullwise/Function" "mostArguments" "I" (.int (2 : Int32))) (S_NULLIF : Sta Z h0 "com/example/nullwise/nullwise/Function" "NULLIF" "Lcom/example/nullwise/nullwise/Function;" (.ref s_NULLIF)) (E_NULLIF : Exa Z h0 s_NULLIF "com/example/nullwise/nullwise/Function") (F_fewestArguments_NULLIF : Fld Z h0 s_NULLIF "com/example/nullwise/nullwise/Function" "fewestArguments" "I" (.int (2 : Int32))) (F_mostArguments_NULLIF : Fld Z h0 s_NULLIF "com/example/nullwise/nullwise/Function" "mostArguments" "I" (.int (2 : Int32))) (S_COALESCE : Sta Z h0 "com/example/nullwise/nullwise/Function" "COALESCE" "Lcom/example/nullwise/nullwise/Function;" (.ref s_COALESCE)) (E_COALESCE : Exa Z h0 s_COALESCE "com/example/nullwise/nullwise/Function") (F_fewestArguments_COALESCE : Fld Z h0 s_COALESCE "com/example/nullwise/nullwise/Function" "fewestArguments" "I" (.int (1 : Int32))) (F_mostArguments_COALESCE : Fld Z h0 s_COALESCE "com/example/nullwise/nullwise/Function" "mostArguments" "I" (.int (2147483647 : Int32))) (F_mostArguments_ATLEASTNNONNULLS : Fld Z h0 s_ATLEASTNNONNULLS "com/example/nullwise/nullwise/Function" "mostArguments" "I" (.int (2147483647 : Int32))) (F_mostArguments_NVL2 : Fld Z h0 s_NVL2 "com/example/nullwise/nullwise/Function" "mostArguments" "I" (.int (3 : Int32))) :
    MetFree l (⟨"com/example/nullwise/nullwise/Function", "takes", "(I)Z"⟩ : MethodName) (head1 (Jvm.Cond.code (⟨"com/example/nullwise/nullwise/Function", "takes", "(I)Z"⟩ : MethodName) prog_41_method_6_code 2 (some .boolean) :: ws) ({ frames := 0, cells := 0, slots := 0, locals := 0 } : Room)) (fun a U => a = #[(.ref s_ABS), (.int p2)] ∧ Z.Warmed39 U.vm ∧ U.heap = h0) (fun _ _ _ _ _ => True) (fun _ U o U' => ∃ v L, o = .returned v ∧ Q1_0 Z p2 s_ABS s_RANGE s_NVL2 s_ATLEASTNNONNULLS s_CONCAT s_IFNULL s_NULLIF s_COALESCE h0 v U'.heap L ∧ FrameEnd U o U' L ({ frames := 0, cells := 0, slots := 0, locals := 0 } : Room).cells ({ frames := 0, cells := 0, slots := 0, locals := 0 } : Room).slots) := by
  refine MetFree.of_bodySF (plainFor_of_name pn_0) hisR ?_
  intro p e s m args below meth c s₁ Bd hml0 hP hK
  obtain ⟨rfl, hZ, hh⟩ := hP
  have hx := Bd.exec
  have hby := Bd.bytes
  have hml : c.maxLocals = 2 := hml0
  have hown : s.vm.findClass "com/example/nullwise/nullwise/Function" = some m.cls := findClass_of_methodNamed Bd.named
  have hnm := (name_of_methodNamed Bd.named Bd.method).1
  have X0 : Stand p l e ({ frames := 0, cells := 0, slots := 0, locals := 0 } : Room) s m #[(.ref s_ABS), (.int p2)] below meth c s₁ [] 0 0 := Stand.of_body Bd
  have e0 : s₁.heap = h0 := by rw [← hh, Bd.state]; rfl
  have pre0 : ∀ t, Steps p.tables e below (s₁.setTop (mkF m 0 #[.val (.ref s_ABS), .val (.int p2)] [])) t → Steps p.tables e below (s₁.setTop (entryFrame m #[(.ref s_ABS), (.int p2)] 2)) t := fun t k => castTop (ef_1_0 m s_ABS p2) k
  obtain ⟨T1, X1, e1, st1⟩ := getF X0 hx hZ hown (host := "") (Or.inl (hw _ (List.mem_of_getElem? (i := 9) rfl))) Via.refl e0 F_fewestArguments_ABS (g := (mkF m 2 #[vR s_ABS, vI p2] [iR s_ABS, iI p2])) rfl rfl (hb hby d1_2)
  obtain ⟨v2, hv2⟩ : ∃ z : Int32, z = (if p2 < (1 : Int32) then (0 : Int32) else (if (1 : Int32) < p2 then (0 : Int32) else (1 : Int32))) := ⟨_, rfl⟩
  obtain ⟨T3, X3, e3, st3⟩ : own_Mid X1 h0 (mkF m 5 #[vR s_ABS, vI p2] [iI 1, iI p2]) (mkF m 21 #[vR s_ABS, vI p2] [iI v2]) := by
    by_cases hc4 : p2 < (1 : Int32)
    · refine ⟨T1, X1, e1, fun t kt => ?_⟩
      subst hv2
      simp only [if_pos hc4] at kt
      show Steps _ _ _ (T1.setTop (mkF m 5 #[vR s_ABS, vI p2] [iI 1, iI p2])) _
      refine XS.icmpYes X1.here hx rfl (pc0 := 5) (pc' := 20) rfl (hb hby d1_5) rfl (tlt hc4).1 (by decide) (by decide) ?_
      show Steps _ _ _ (T1.setTop (mkF m 20 #[vR s_ABS, vI p2] [])) _
      refine XS.iconst X1.here hx rfl (hb hby d1_20) ?_
      exact kt
    · obtain ⟨T5, X5, e5, st5⟩ := getF X1 hx hZ hown (host := "") (Or.inl (hw _ (List.mem_of_getElem? (i := 11) rfl))) Via.refl e1 F_mostArguments_ABS (g := (mkF m 10 #[vR s_ABS, vI p2] [iR s_ABS, iI p2])) rfl rfl (hb hby d1_10)
      have pre7 : ∀ t, Steps p.tables e below (T5.setTop (mkF m 13 #[vR s_ABS, vI p2] [iI 1, iI p2])) t → Steps p.tables e below (T1.setTop (mkF m 5 #[vR s_ABS, vI p2] [iI 1, iI p2])) t := by
        intro t kt
        show Steps _ _ _ (T1.setTop (mkF m 5 #[vR s_ABS, vI p2] [iI 1, iI p2])) _
        refine XS.icmpNo X1.here hx rfl (hb hby d1_5) rfl (flt hc4).1 ?_
        show Steps _ _ _ (T1.setTop (mkF m 8 #[vR s_ABS, vI p2] [])) _
        refine XS.iloadN X1.here hx rfl (hb hby d1_8) rfl ?_
        show Steps _ _ _ (T1.setTop (mkF m 9 #[vR s_ABS, vI p2] [iI p2])) _
        refine XS.aloadN X1.here hx rfl (hb hby d1_9) rfl rfl ?_
        show Steps _ _ _ (T1.setTop (mkF m 10 #[vR s_ABS, vI p2] [iR s_ABS, iI p2])) _
        refine st5 _ ?_
        exact kt
      by_cases hc6 : (1 : Int32) < p2
      · refine ⟨T5, X5, e5, fun t kt => ?_⟩
        subst hv2
        simp only [if_neg hc4, if_pos hc6] at kt
        refine pre7 t ?_
        show Steps _ _ _ (T5.setTop (mkF m 13 #[vR s_ABS, vI p2] [iI 1, iI p2])) _
        refine XS.icmpYes X5.here hx rfl (pc0 := 13) (pc' := 20) rfl (hb hby d1_13) rfl (tlt hc6).2.2.1 (by decide) (by decide) ?_
        show Steps _ _ _ (T5.setTop (mkF m 20 #[vR s_ABS, vI p2] [])) _
        refine XS.iconst X5.here hx rfl (hb hby d1_20) ?_
        exact kt
      · refine ⟨T5, X5, e5, fun t kt => ?_⟩
        subst hv2
        simp only [if_neg hc4, if_neg hc6] at kt
        refine pre7 t ?_
        show Steps _ _ _ (T5.setTop (mkF m 13 #[vR s_ABS, vI p2] [iI 1, iI p2])) _
        refine XS.icmpNo X5.here hx rfl (hb hby d1_13) rfl (flt hc6).2.2.1 ?_
        show Steps _ _ _ (T5.setTop (mkF m 16 #[vR s_ABS, vI p2] [])) _
        refine XS.iconst X5.here hx rfl (hb hby d1_16) ?_
        show Steps _ _ _ (T5.setTop (mkF m 17 #[vR s_ABS, vI p2] [iI 1])) _
        refine XS.goto X5.here hx rfl (pc0 := 17) (pc' := 21) rfl (hb hby d1_17) (by decide) (by decide) ?_
        exact kt
  obtain ⟨fs, hr, hrun, hended, hW, hsame⟩ := X3.leave (v := some (.int (nar .boolean v2))) (fun h => by rw [Bd.returns] at h; cases h)
  refine ⟨_, _, pre0 _ ?_, hrun, hended, _, _, rfl, ?_, ⟨_, rfl⟩, hW, hsame.mono (by decide) (by decide)⟩
  · show Steps _ _ _ (s₁.setTop (mkF m 0 #[vR s_ABS, vI p2] [])) _
    refine XS.iloadN X0.here hx rfl (hb hby d1_0) rfl ?_
    show Steps _ _ _ (s₁.setTop (mkF m 1 #[vR s_ABS, vI p2] [iI p2])) _
    refine XS.aloadN X0.here hx rfl (hb hby d1_1) rfl rfl ?_
    show Steps _ _ _ (s₁.setTop (mkF m 2 #[vR s_ABS, vI p2] [iR s_ABS, iI p2])) _
    refine st1 _ ?_
    show Steps _ _ _ (T1.setTop (mkF m 5 #[vR s_ABS, vI p2] [iI 1, iI p2])) _
    refine st3 _ ?_
    show Steps _ _ _ (T3.setTop (mkF m 21 #[vR s_ABS, vI p2] [iI v2])) _
    exact retN X3 hx (t := .boolean) Bd.returns (by simp) (hb hby d1_21) hr
  · show Q1_0 Z p2 s_ABS s_RANGE s_NVL2 s_ATLEASTNNONNULLS s_CONCAT s_IFNULL s_NULLIF s_COALESCE h0 _ T3.heap _
    rw [e3]
    exact ⟨by subst hv2; first | rfl | (simp only [own_tk_0]; done) | (simp only [own_tk_0]; rfl) | (simp only [own_tk_0, nar] ; first | rfl | (simp; done) | decide), rfl, rfl⟩
def own_tk_1 (p2 : Int32) : Int32 := (nar .boolean (if p2 < (2 : Int32) then (0 : Int32) else (if (3 : Int32) < p2 then (0 : Int32) else (1 : Int32))))
theorem ef_1_1 (m : MethodId) (x0 : Addr) (x1 : Int32) : entryFrame m #[(.ref x0), (.int x1)] 2 = mkF m 0 #[.val (.ref x0), .val (.int x1)] [] := by first | (simp [entryFrame, mkF, argsToLocals, Value.category]; done) | rfl
def Q1_1 (Z : State) (p2 : Int32) (s_ABS : Addr) (s_RANGE : Addr) (s_NVL2 : Addr) (s_ATLEASTNNONNULLS : Addr) (s_CONCAT : Addr) (s_IFNULL : Addr) (s_NULLIF : Addr) (s_COALESCE : Addr) (h0 : Heap) (v : Option Value) (h : Heap) (L : List Loc) : Prop := v = some (.int (own_tk_1 p2)) ∧ L = [] ∧ h = h0
set_option maxRecDepth 65536 in
set_option maxHeartbeats 40000000 in
theorem rm1_1 (l : Launch) (Z : State) (a0 : Array Value) (hw : ∀ d ∈ tables_1, d.before a0 Z = true) (ws : List Jvm.Cond) (p2 : Int32) (s_ABS : Addr) (s_RANGE : Addr) (s_NVL2 : Addr) (s_ATLEASTNNONNULLS : Addr) (s_CONCAT : Addr) (s_IFNULL : Addr) (s_NULLIF : Addr) (s_COALESCE : Addr) (h0 : Heap) (S_ABS : Sta Z h0 "com/example/nullwise/nullwise/Function" "ABS" "Lcom/example/nullwise/nullwise/Function;" (.ref s_ABS)) (E_ABS : Exa Z h0 s_ABS "com/example/nullwise/nullwise/Function") (F_fewestArguments_ABS : Fld Z h0 s_ABS "com/example/nullwise/nullwise/Function" "fewestArguments" "I" (.int (1 : Int32))) (F_mostArguments_ABS : Fld Z h0 s_ABS "com/example/nullwise/nullwise/Function" "mostArguments" "I" (.int (1 : Int32))) (S_RANGE : Sta Z h0 "com/example/nullwise/nullwise/Function" "RANGE" "Lcom/example/nullwise/nullwise/Function;" (.ref s_RANGE)) (E_RANGE : Exa Z h0 s_RANGE "com/example/nullwise/nullwise/Function") (F_fewestArguments_RANGE : Fld Z h0 s_RANGE "com/example/nullwise/nullwise/Function" "fewestArguments" "I" (.int (2 : Int32))) (F_mostArguments_RANGE : Fld Z h0 s_RANGE "com/example/nullwise/nullwise/Function" "mostArguments" "I" (.int (3 : Int32))) (S_NVL2 : Sta Z h0 "com/example/nullwise/nullwise/Function" "NVL2" "Lcom/example/nullwise/nullwise/Function;" (.ref s_NVL2)) (E_NVL2 : Exa Z h0 s_NVL2 "com/example/nullwise/nullwise/Function") (F_fewestArguments_NVL2 : Fld Z h0 s_NVL2 "com/example/nullwise/nullwise/Function" "fewestArguments" "I" (.int (3 : Int32))) (S_ATLEASTNNONNULLS : Sta Z h0 "com/example/nullwise/nullwise/Function" "ATLEASTNNONNULLS" "Lcom/example/nullwise/nullwise/Function;" (.ref s_ATLEASTNNONNULLS)) (E_ATLEASTNNONNULLS : Exa Z h0 s_ATLEASTNNONNULLS "com/example/nullwise/nullwise/Function") (F_fewestArguments_ATLEASTNNONNULLS : Fld Z h0 s_ATLEASTNNONNULLS "com/example/nullwise/nullwise/Function" "fewestArguments" "I" (.int (1 : Int32))) (S_CONCAT : Sta Z h0 "com/example/nullwise/nullwise/Function" "CONCAT" "Lcom/example/nullwise/nullwise/Function;" (.ref s_CONCAT)) (E_CONCAT : Exa Z h0 s_CONCAT "com/example/nullwise/nullwise/Function") (F_fewestArguments_CONCAT : Fld Z h0 s_CONCAT "com/example/nullwise/nullwise/Function" "fewestArguments" "I" (.int (1 : Int32))) (F_mostArguments_CONCAT : Fld Z h0 s_CONCAT "com/example/nullwise/nullwise/Function" "mostArguments" "I" (.int (2147483647 : Int32))) (S_IFNULL : Sta Z h0 "com/example/nullwise/nullwise/Function" "IFNULL" "Lcom/example/nullwise/nullwise/Function;" (.ref s_IFNULL)) (E_IFNULL : Exa Z h0 s_IFNULL "com/example/nullwise/nullwise/Function") (F_fewestArguments_IFNULL : Fld Z h0 s_IFNULL "com/example/nullwise/nullwise/Function" "fewestArguments" "I" (.int (2 : Int32))) (F_mostArguments_IFNULL : Fld Z h0 s_IFNULL "com/example/nullwise/nullwise/Function" "mostArguments" "I" (.int (2 : Int32))) (S_NULLIF : Sta Z h0 "com/example/nullwise/nullwise/Function" "NULLIF" "Lcom/example/nullwise/nullwise/Function;" (.ref s_NULLIF)) (E_NULLIF : Exa Z h0 s_NULLIF "com/example/nullwise/nullwise/Function") (F_fewestArguments_NULLIF : Fld Z h0 s_NULLIF "com/example/nullwise/nullwise/Function" "fewestArguments" "I" (.int (2 : Int32))) (F_mostArguments_NULLIF : Fld Z h0 s_NULLIF "com/example/nullwise/nullwise/Function" "mostArguments" "I" (.int (2 : Int32))) (S_COALESCE : Sta Z h0 "com/example/nullwise/nullwise/Function" "COALESCE" "Lcom/example/nullwise/nullwise/Function;" (.ref s_COALESCE)) (E_COALESCE : Exa Z h0 s_COALESCE "com/example/nullwise/nullwise/Function") (F_fewestArguments_COALESCE : Fld Z h0 s_COALESCE "com/example/nullwise/nullwise/Function" "fewestArguments" "I" (.int (1 : Int32))) (F_mostArguments_COALESCE : Fld Z h0 s_COALESCE "com/example/nullwise/nullwise/Function" "mostArguments" "I" (.int (2147483647 : Int32))) (F_mostArguments_ATLEASTNNONNULLS : Fld Z h0 s_ATLEASTNNONNULLS "com/example/nullwise/nullwise/Function" "mostArguments" "I" (.int (2147483647 : Int32))) (F_mostArguments_NVL2 : Fld Z h0 s_NVL2 "com/example/nullwise/nullwise/Function" "mostArguments" "I" (.int (3 : Int32))) :
    MetFree l (⟨"com/example/nullwise/nullwise/Function", "takes", "(I)Z"⟩ : MethodName) (head1 (Jvm.Cond.code (⟨"com/example/nullwise/nullwise/Function", "takes", "(I)Z"⟩ : MethodName) prog_41_method_6_code 2 (some .boolean) :: ws) ({ frames := 0, cells := 0, slots := 0, locals := 0 } : Room)) (fun a U => a = #[(.ref s_RANGE), (.int p2)] ∧ Z.Warmed39 U.vm ∧ U.heap = h0) (fun _ _ _ _ _ => True) (fun _ U o U' => ∃ v L, o = .returned v ∧ Q1_1 Z p2 s_ABS s_RANGE s_NVL2 s_ATLEASTNNONNULLS s_CONCAT s_IFNULL s_NULLIF s_COALESCE h0 v U'.heap L ∧ FrameEnd U o U' L ({ frames := 0, cells := 0, slots := 0, locals := 0 } : Room).cells ({ frames := 0, cells := 0, slots := 0, locals := 0 } : Room).slots) := by
  refine MetFree.of_bodySF (plainFor_of_name pn_0) hisR ?_
  intro p e s m args below meth c s₁ Bd hml0 hP hK
  obtain ⟨rfl, hZ, hh⟩ := hP
  have hx := Bd.exec
  have hby := Bd.bytes
  have hml : c.maxLocals = 2 := hml0
  have hown : s.vm.findClass "com/example/nullwise/nullwise/Function" = some m.cls := findClass_of_methodNamed Bd.named
  have hnm := (name_of_methodNamed Bd.named Bd.method).1
  have X0 : Stand p l e ({ frames := 0, cells := 0, slots := 0, locals := 0 } : Room) s m #[(.ref s_RANGE), (.int p2)] below meth c s₁ [] 0 0 := Stand.of_body Bd
  have e0 : s₁.heap = h0 := by rw [← hh, Bd.state]; rfl
  have pre0 : ∀ t, Steps p.tables e below (s₁.setTop (mkF m 0 #[.val (.ref s_RANGE), .val (.int p2)] [])) t → Steps p.tables e below (s₁.setTop (entryFrame m #[(.ref s_RANGE), (.int p2)] 2)) t := fun t k => castTop (ef_1_1 m s_RANGE p2) k
  obtain ⟨T1, X1, e1, st1⟩ := getF X0 hx hZ hown (host := "") (Or.inl (hw _ (List.mem_of_getElem? (i := 9) rfl))) Via.refl e0 F_fewestArguments_RANGE (g := (mkF m 2 #[vR s_RANGE, vI p2] [iR s_RANGE, iI p2])) rfl rfl (hb hby d1_2)
  obtain ⟨v2, hv2⟩ : ∃ z : Int32, z = (if p2 < (2 : Int32) then (0 : Int32) else (if (3 : Int32) < p2 then (0 : Int32) else (1 : Int32))) := ⟨_, rfl⟩
  obtain ⟨T3, X3, e3, st3⟩ : own_Mid X1 h0 (mkF m 5 #[vR s_RANGE, vI p2] [iI 2, iI p2]) (mkF m 21 #[vR s_RANGE, vI p2] [iI v2]) := by
    by_cases hc4 : p2 < (2 : Int32)
    · refine ⟨T1, X1, e1, fun t kt => ?_⟩
      subst hv2
      simp only [if_pos hc4] at kt
      show Steps _ _ _ (T1.setTop (mkF m 5 #[vR s_RANGE, vI p2] [iI 2, iI p2])) _
      refine XS.icmpYes X1.here hx rfl (pc0 := 5) (pc' := 20) rfl (hb hby d1_5) rfl (tlt hc4).1 (by decide) (by decide) ?_
      show Steps _ _ _ (T1.setTop (mkF m 20 #[vR s_RANGE, vI p2] [])) _
      refine XS.iconst X1.here hx rfl (hb hby d1_20) ?_
      exact kt
    · obtain ⟨T5, X5, e5, st5⟩ := getF X1 hx hZ hown (host := "") (Or.inl (hw _ (List.mem_of_getElem? (i := 11) rfl))) Via.refl e1 F_mostArguments_RANGE (g := (mkF m 10 #[vR s_RANGE, vI p2] [iR s_RANGE, iI p2])) rfl rfl (hb hby d1_10)
      have pre7 : ∀ t, Steps p.tables e below (T5.setTop (mkF m 13 #[vR s_RANGE, vI p2] [iI 3, iI p2])) t → Steps p.tables e below (T1.setTop (mkF m 5 #[vR s_RANGE, vI p2] [iI 2, iI p2])) t := by
        intro t kt
        show Steps _ _ _ (T1.setTop (mkF m 5 #[vR s_RANGE, vI p2] [iI 2, iI p2])) _
        refine XS.icmpNo X1.here hx rfl (hb hby d1_5) rfl (flt hc4).1 ?_
        show Steps _ _ _ (T1.setTop (mkF m 8 #[vR s_RANGE, vI p2] [])) _
        refine XS.iloadN X1.here hx rfl (hb hby d1_8) rfl ?_
        show Steps _ _ _ (T1.setTop (mkF m 9 #[vR s_RANGE, vI p2] [iI p2])) _
        refine XS.aloadN X1.here hx rfl (hb hby d1_9) rfl rfl ?_
        show Steps _ _ _ (T1.setTop (mkF m 10 #[vR s_RANGE, vI p2] [iR s_RANGE, iI p2])) _
        refine st5 _ ?_
        exact kt
      by_cases hc6 : (3 : Int32) < p2
      · refine ⟨T5, X5, e5, fun t kt => ?_⟩
        subst hv2
        simp only [if_neg hc4, if_pos hc6] at kt
        refine pre7 t ?_
        show Steps _ _ _ (T5.setTop (mkF m 13 #[vR s_RANGE, vI p2] [iI 3, iI p2])) _
        refine XS.icmpYes X5.here hx rfl (pc0 := 13) (pc' := 20) rfl (hb hby d1_13) rfl (tlt hc6).2.2.1 (by decide) (by decide) ?_
        show Steps _ _ _ (T5.setTop (mkF m 20 #[vR s_RANGE, vI p2] [])) _
        refine XS.iconst X5.here hx rfl (hb hby d1_20) ?_
        exact kt
      · refine ⟨T5, X5, e5, fun t kt => ?_⟩
        subst hv2
        simp only [if_neg hc4, if_neg hc6] at kt
        refine pre7 t ?_
        show Steps _ _ _ (T5.setTop (mkF m 13 #[vR s_RANGE, vI p2] [iI 3, iI p2])) _
        refine XS.icmpNo X5.here hx rfl (hb hby d1_13) rfl (flt hc6).2.2.1 ?_
        show Steps _ _ _ (T5.setTop (mkF m 16 #[vR s_RANGE, vI p2] [])) _
        refine XS.iconst X5.here hx rfl (hb hby d1_16) ?_
        show Steps _ _ _ (T5.setTop (mkF m 17 #[vR s_RANGE, vI p2] [iI 1])) _
        refine XS.goto X5.here hx rfl (pc0 := 17) (pc' := 21) rfl (hb hby d1_17) (by decide) (by decide) ?_
        exact kt
  obtain ⟨fs, hr, hrun, hended, hW, hsame⟩ := X3.leave (v := some (.int (nar .boolean v2))) (fun h => by rw [Bd.returns] at h; cases h)
  refine ⟨_, _, pre0 _ ?_, hrun, hended, _, _, rfl, ?_, ⟨_, rfl⟩, hW, hsame.mono (by decide) (by decide)⟩
  · show Steps _ _ _ (s₁.setTop (mkF m 0 #[vR s_RANGE, vI p2] [])) _
    refine XS.iloadN X0.here hx rfl (hb hby d1_0) rfl ?_
    show Steps _ _ _ (s₁.setTop (mkF m 1 #[vR s_RANGE, vI p2] [iI p2])) _
    refine XS.aloadN X0.here hx rfl (hb hby d1_1) rfl rfl ?_
    show Steps _ _ _ (s₁.setTop (mkF m 2 #[vR s_RANGE, vI p2] [iR s_RANGE, iI p2])) _
    refine st1 _ ?_
    show Steps _ _ _ (T1.setTop (mkF m 5 #[vR s_RANGE, vI p2] [iI 2, iI p2])) _
    refine st3 _ ?_
    show Steps _ _ _ (T3.setTop (mkF m 21 #[vR s_RANGE, vI p2] [iI v2])) _
    exact retN X3 hx (t := .boolean) Bd.returns (by simp) (hb hby d1_21) hr
  · show Q1_1 Z p2 s_ABS s_RANGE s_NVL2 s_ATLEASTNNONNULLS s_CONCAT s_IFNULL s_NULLIF s_COALESCE h0 _ T3.heap _
    rw [e3]
    exact ⟨by subst hv2; first | rfl | (simp only [own_tk_1]; done) | (simp only [own_tk_1]; rfl) | (simp only [own_tk_1, nar] ; first | rfl | (simp; done) | decide), rfl, rfl⟩
def own_tk_2 (p2 : Int32) : Int32 := (nar .boolean (if p2 < (1 : Int32) then (0 : Int32) else (if (2147483647 : Int32) < p2 then (0 : Int32) else (1 : Int32))))
theorem ef_1_2 (m : MethodId) (x0 : Addr) (x1 : Int32) : entryFrame m #[(.ref x0), (.int x1)] 2 = mkF m 0 #[.val (.ref x0), .val (.int x1)] [] := by first | (simp [entryFrame, mkF, argsToLocals, Value.category]; done) | rfl
def Q1_2 (Z : State) (p2 : Int32) (s_ABS : Addr) (s_RANGE : Addr) (s_NVL2 : Addr) (s_ATLEASTNNONNULLS : Addr) (s_CONCAT : Addr) (s_IFNULL : Addr) (s_NULLIF : Addr) (s_COALESCE : Addr) (h0 : Heap) (v : Option Value) (h : Heap) (L : List Loc) : Prop := v = some (.int (own_tk_2 p2)) ∧ L = [] ∧ h = h0
set_option maxRecDepth 65536 in
set_option maxHeartbeats 40000000 in
theorem rm1_2 (l : Launch) (Z : State) (a0 : Array Value) (hw : ∀ d ∈ tables_1, d.before a0 Z = true) (ws : List Jvm.Cond) (p2 : Int32) (s_ABS : Addr) (s_RANGE : Addr) (s_NVL2 : Addr) (s_ATLEASTNNONNULLS : Addr) (s_CONCAT : Addr) (s_IFNULL : Addr) (s_NULLIF : Addr) (s_COALESCE : Addr) (h0 : Heap) (S_ABS : Sta Z h0 "com/example/nullwise/nullwise/Function" "ABS" "Lcom/example/nullwise/nullwise/Function;" (.ref s_ABS)) (E_ABS : Exa Z h0 s_ABS "com/example/nullwise/nullwise/Function") (F_fewestArguments_ABS : Fld Z h0 s_ABS "com/example/nullwise/nullwise/Function" "fewestArguments" "I" (.int (1 : Int32))) (F_mostArguments_ABS : Fld Z h0 s_ABS "com/example/nullwise/nullwise/Function" "mostArguments" "I" (.int (1 : Int32))) (S_RANGE : Sta Z h0 "com/example/nullwise/nullwise/Function" "RANGE" "Lcom/example/nullwise/nullwise/Function;" (.ref s_RANGE)) (E_RANGE : Exa Z h0 s_RANGE "com/example/nullwise/nullwise/Function") (F_fewestArguments_RANGE : Fld Z h0 s_RANGE "com/example/nullwise/nullwise/Function" "fewestArguments" "I" (.int (2 : Int32))) (F_mostArguments_RANGE : Fld Z h0 s_RANGE "com/example/nullwise/nullwise/Function" "mostArguments" "I" (.int (3 : Int32))) (S_NVL2 : Sta Z h0 "com/example/nullwise/nullwise/Function" "NVL2" "Lcom/example/nullwise/nullwise/Function;" (.ref s_NVL2)) (E_NVL2 : Exa Z h0 s_NVL2 "com/example/nullwise/nullwise/Function") (F_fewestArguments_NVL2 : Fld Z h0 s_NVL2 "com/example/nullwise/nullwise/Function" "fewestArguments" "I" (.int (3 : Int32))) (S_ATLEASTNNONNULLS : Sta Z h0 "com/example/nullwise/nullwise/Function" "ATLEASTNNONNULLS" "Lcom/example/nullwise/nullwise/Function;" (.ref s_ATLEASTNNONNULLS)) (E_ATLEASTNNONNULLS : Exa Z h0 s_ATLEASTNNONNULLS "com/example/nullwise/nullwise/Function") (F_fewestArguments_ATLEASTNNONNULLS : Fld Z h0 s_ATLEASTNNONNULLS "com/example/nullwise/nullwise/Function" "fewestArguments" "I" (.int (1 : Int32))) (S_CONCAT : Sta Z h0 "com/example/nullwise/nullwise/Function" "CONCAT" "Lcom/example/nullwise/nullwise/Function;" (.ref s_CONCAT)) (E_CONCAT : Exa Z h0 s_CONCAT "com/example/nullwise/nullwise/Function") (F_fewestArguments_CONCAT : Fld Z h0 s_CONCAT "com/example/nullwise/nullwise/Function" "fewestArguments" "I" (.int (1 : Int32))) (F_mostArguments_CONCAT : Fld Z h0 s_CONCAT "com/example/nullwise/nullwise/Function" "mostArguments" "I" (.int (2147483647 : Int32))) (S_IFNULL : Sta Z h0 "com/example/nullwise/nullwise/Function" "IFNULL" "Lcom/example/nullwise/nullwise/Function;" (.ref s_IFNULL)) (E_IFNULL : Exa Z h0 s_IFNULL "com/example/nullwise/nullwise/Function") (F_fewestArguments_IFNULL : Fld Z h0 s_IFNULL "com/example/nullwise/nullwise/Function" "fewestArguments" "I" (.int (2 : Int32))) (F_mostArguments_IFNULL : Fld Z h0 s_IFNULL "com/example/nullwise/nullwise/Function" "mostArguments" "I" (.int (2 : Int32))) (S_NULLIF : Sta Z h0 "com/example/nullwise/nullwise/Function" "NULLIF" "Lcom/example/nullwise/nullwise/Function;" (.ref s_NULLIF)) (E_NULLIF : Exa Z h0 s_NULLIF "com/example/nullwise/nullwise/Function") (F_fewestArguments_NULLIF : Fld Z h0 s_NULLIF "com/example/nullwise/nullwise/Function" "fewestArguments" "I" (.int (2 : Int32))) (F_mostArguments_NULLIF : Fld Z h0 s_NULLIF "com/example/nullwise/nullwise/Function" "mostArguments" "I" (.int (2 : Int32))) (S_COALESCE : Sta Z h0 "com/example/nullwise/nullwise/Function" "COALESCE" "Lcom/example/nullwise/nullwise/Function;" (.ref s_COALESCE)) (E_COALESCE : Exa Z h0 s_COALESCE "com/example/nullwise/nullwise/Function") (F_fewestArguments_COALESCE : Fld Z h0 s_COALESCE "com/example/nullwise/nullwise/Function" "fewestArguments" "I" (.int (1 : Int32))) (F_mostArguments_COALESCE : Fld Z h0 s_COALESCE "com/example/nullwise/nullwise/Function" "mostArguments" "I" (.int (2147483647 : Int32))) (F_mostArguments_ATLEASTNNONNULLS : Fld Z h0 s_ATLEASTNNONNULLS "com/example/nullwise/nullwise/Function" "mostArguments" "I" (.int (2147483647 : Int32))) (F_mostArguments_NVL2 : Fld Z h0 s_NVL2 "com/example/nullwise/nullwise/Function" "mostArguments" "I" (.int (3 : Int32))) :
    MetFree l (⟨"com/example/nullwise/nullwise/Function", "takes", "(I)Z"⟩ : MethodName) (head1 (Jvm.Cond.code (⟨"com/example/nullwise/nullwise/Function", "takes", "(I)Z"⟩ : MethodName) prog_41_method_6_code 2 (some .boolean) :: ws) ({ frames := 0, cells := 0, slots := 0, locals := 0 } : Room)) (fun a U => a = #[(.ref s_CONCAT), (.int p2)] ∧ Z.Warmed39 U.vm ∧ U.heap = h0) (fun _ _ _ _ _ => True) (fun _ U o U' => ∃ v L, o = .returned v ∧ Q1_2 Z p2 s_ABS s_RANGE s_NVL2 s_ATLEASTNNONNULLS s_CONCAT s_IFNULL s_NULLIF s_COALESCE h0 v U'.heap L ∧ FrameEnd U o U' L ({ frames := 0, cells := 0, slots := 0, locals := 0 } : Room).cells ({ frames := 0, cells := 0, slots := 0, locals := 0 } : Room).slots) := by
  refine MetFree.of_bodySF (plainFor_of_name pn_0) hisR ?_
  intro p e s m args below meth c s₁ Bd hml0 hP hK
  obtain ⟨rfl, hZ, hh⟩ := hP
  have hx := Bd.exec
  have hby := Bd.bytes
  have hml : c.maxLocals = 2 := hml0
  have hown : s.vm.findClass "com/example/nullwise/nullwise/Function" = some m.cls := findClass_of_methodNamed Bd.named
  have hnm := (name_of_methodNamed Bd.named Bd.method).1
  have X0 : Stand p l e ({ frames := 0, cells := 0, slots := 0, locals := 0 } : Room) s m #[(.ref s_CONCAT), (.int p2)] below meth c s₁ [] 0 0 := Stand.of_body Bd
  have e0 : s₁.heap = h0 := by rw [← hh, Bd.state]; rfl
  have pre0 : ∀ t, Steps p.tables e below (s₁.setTop (mkF m 0 #[.val (.ref s_CONCAT), .val (.int p2)] [])) t → Steps p.tables e below (s₁.setTop (entryFrame m #[(.ref s_CONCAT), (.int p2)] 2)) t := fun t k => castTop (ef_1_2 m s_CONCAT p2) k
  obtain ⟨T1, X1, e1, st1⟩ := getF X0 hx hZ hown (host := "") (Or.inl (hw _ (List.mem_of_getElem? (i := 9) rfl))) Via.refl e0 F_fewestArguments_CONCAT (g := (mkF m 2 #[vR s_CONCAT, vI p2] [iR s_CONCAT, iI p2])) rfl rfl (hb hby d1_2)
  obtain ⟨v2, hv2⟩ : ∃ z : Int32, z = (if p2 < (1 : Int32) then (0 : Int32) else (if (2147483647 : Int32) < p2 then (0 : Int32) else (1 : Int32))) := ⟨_, rfl⟩
  obtain ⟨T3, X3, e3, st3⟩ : own_Mid X1 h0 (mkF m 5 #[vR s_CONCAT, vI p2] [iI 1, iI p2]) (mkF m 21 #[vR s_CONCAT, vI p2] [iI v2]) := by
    by_cases hc4 : p2 < (1 : Int32)
    · refine ⟨T1, X1, e1, fun t kt => ?_⟩
      subst hv2
      simp only [if_pos hc4] at kt
      show Steps _ _ _ (T1.setTop (mkF m 5 #[vR s_CONCAT, vI p2] [iI 1, iI p2])) _
      refine XS.icmpYes X1.here hx rfl (pc0 := 5) (pc' := 20) rfl (hb hby d1_5) rfl (tlt hc4).1 (by decide) (by decide) ?_
      show Steps _ _ _ (T1.setTop (mkF m 20 #[vR s_CONCAT, vI p2] [])) _
      refine XS.iconst X1.here hx rfl (hb hby d1_20) ?_
      exact kt
    · obtain ⟨T5, X5, e5, st5⟩ := getF X1 hx hZ hown (host := "") (Or.inl (hw _ (List.mem_of_getElem? (i := 11) rfl))) Via.refl e1 F_mostArguments_CONCAT (g := (mkF m 10 #[vR s_CONCAT, vI p2] [iR s_CONCAT, iI p2])) rfl rfl (hb hby d1_10)
      have pre7 : ∀ t, Steps p.tables e below (T5.setTop (mkF m 13 #[vR s_CONCAT, vI p2] [iI 2147483647, iI p2])) t → Steps p.tables e below (T1.setTop (mkF m 5 #[vR s_CONCAT, vI p2] [iI 1, iI p2])) t := by
        intro t kt
        show Steps _ _ _ (T1.setTop (mkF m 5 #[vR s_CONCAT, vI p2] [iI 1, iI p2])) _
        refine XS.icmpNo X1.here hx rfl (hb hby d1_5) rfl (flt hc4).1 ?_
        show Steps _ _ _ (T1.setTop (mkF m 8 #[vR s_CONCAT, vI p2] [])) _
        refine XS.iloadN X1.here hx rfl (hb hby d1_8) rfl ?_
        show Steps _ _ _ (T1.setTop (mkF m 9 #[vR s_CONCAT, vI p2] [iI p2])) _
        refine XS.aloadN X1.here hx rfl (hb hby d1_9) rfl rfl ?_
        show Steps _ _ _ (T1.setTop (mkF m 10 #[vR s_CONCAT, vI p2] [iR s_CONCAT, iI p2])) _
        refine st5 _ ?_
        exact kt
      by_cases hc6 : (2147483647 : Int32) < p2
      · refine ⟨T5, X5, e5, fun t kt => ?_⟩
        subst hv2
        simp only [if_neg hc4, if_pos hc6] at kt
        refine pre7 t ?_
        show Steps _ _ _ (T5.setTop (mkF m 13 #[vR s_CONCAT, vI p2] [iI 2147483647, iI p2])) _
        refine XS.icmpYes X5.here hx rfl (pc0 := 13) (pc' := 20) rfl (hb hby d1_13) rfl (tlt hc6).2.2.1 (by decide) (by decide) ?_
        show Steps _ _ _ (T5.setTop (mkF m 20 #[vR s_CONCAT, vI p2] [])) _
        refine XS.iconst X5.here hx rfl (hb hby d1_20) ?_
        exact kt
      · refine ⟨T5, X5, e5, fun t kt => ?_⟩
        subst hv2
        simp only [if_neg hc4, if_neg hc6] at kt
        refine pre7 t ?_
        show Steps _ _ _ (T5.setTop (mkF m 13 #[vR s_CONCAT, vI p2] [iI 2147483647, iI p2])) _
        refine XS.icmpNo X5.here hx rfl (hb hby d1_13) rfl (flt hc6).2.2.1 ?_
        show Steps _ _ _ (T5.setTop (mkF m 16 #[vR s_CONCAT, vI p2] [])) _
        refine XS.iconst X5.here hx rfl (hb hby d1_16) ?_
        show Steps _ _ _ (T5.setTop (mkF m 17 #[vR s_CONCAT, vI p2] [iI 1])) _
        refine XS.goto X5.here hx rfl (pc0 := 17) (pc' := 21) rfl (hb hby d1_17) (by decide) (by decide) ?_
        exact kt
  obtain ⟨fs, hr, hrun, hended, hW, hsame⟩ := X3.leave (v := some (.int (nar .boolean v2))) (fun h => by rw [Bd.returns] at h; cases h)
  refine ⟨_, _, pre0 _ ?_, hrun, hended, _, _, rfl, ?_, ⟨_, rfl⟩, hW, hsame.mono (by decide) (by decide)⟩
  · show Steps _ _ _ (s₁.setTop (mkF m 0 #[vR s_CONCAT, vI p2] [])) _
    refine XS.iloadN X0.here hx rfl (hb hby d1_0) rfl ?_
    show Steps _ _ _ (s₁.setTop (mkF m 1 #[vR s_CONCAT, vI p2] [iI p2])) _
    refine XS.aloadN X0.here hx rfl (hb hby d1_1) rfl rfl ?_
    show Steps _ _ _ (s₁.setTop (mkF m 2 #[vR s_CONCAT, vI p2] [iR s_CONCAT, iI p2])) _
    refine st1 _ ?_
    show Steps _ _ _ (T1.setTop (mkF m 5 #[vR s_CONCAT, vI p2] [iI 1, iI p2])) _
    refine st3 _ ?_
    show Steps _ _ _ (T3.setTop (mkF m 21 #[vR s_CONCAT, vI p2] [iI v2])) _
    exact retN X3 hx (t := .boolean) Bd.returns (by simp) (hb hby d1_21) hr
  · show Q1_2 Z p2 s_ABS s_RANGE s_NVL2 s_ATLEASTNNONNULLS s_CONCAT s_IFNULL s_NULLIF s_COALESCE h0 _ T3.heap _
    rw [e3]
    exact ⟨by subst hv2; first | rfl | (simp only [own_tk_2]; done) | (simp only [own_tk_2]; rfl) | (simp only [own_tk_2, nar] ; first | rfl | (simp; done) | decide), rfl, rfl⟩
def own_tk_3 (p2 : Int32) : Int32 := (nar .boolean (if p2 < (2 : Int32) then (0 : Int32) else (if (2 : Int32) < p2 then (0 : Int32) else (1 : Int32))))
theorem ef_1_3 (m : MethodId) (x0 : Addr) (x1 : Int32) : entryFrame m #[(.ref x0), (.int x1)] 2 = mkF m 0 #[.val (.ref x0), .val (.int x1)] [] := by first | (simp [entryFrame, mkF, argsToLocals, Value.category]; done) | rfl
def Q1_3 (Z : State) (p2 : Int32) (s_ABS : Addr) (s_RANGE : Addr) (s_NVL2 : Addr) (s_ATLEASTNNONNULLS : Addr) (s_CONCAT : Addr) (s_IFNULL : Addr) (s_NULLIF : Addr) (s_COALESCE : Addr) (h0 : Heap) (v : Option Value) (h : Heap) (L : List Loc) : Prop := v = some (.int (own_tk_3 p2)) ∧ L = [] ∧ h = h0
set_option maxRecDepth 65536 in
set_option maxHeartbeats 40000000 in
theorem rm1_3 (l : Launch) (Z : State) (a0 : Array Value) (hw : ∀ d ∈ tables_1, d.before a0 Z = true) (ws : List Jvm.Cond) (p2 : Int32) (s_ABS : Addr) (s_RANGE : Addr) (s_NVL2 : Addr) (s_ATLEASTNNONNULLS : Addr) (s_CONCAT : Addr) (s_IFNULL : Addr) (s_NULLIF : Addr) (s_COALESCE : Addr) (h0 : Heap) (S_ABS : Sta Z h0 "com/example/nullwise/nullwise/Function" "ABS" "Lcom/example/nullwise/nullwise/Function;" (.ref s_ABS)) (E_ABS : Exa Z h0 s_ABS "com/example/nullwise/nullwise/Function") (F_fewestArguments_ABS : Fld Z h0 s_ABS "com/example/nullwise/nullwise/Function" "fewestArguments" "I" (.int (1 : Int32))) (F_mostArguments_ABS : Fld Z h0 s_ABS "com/example/nullwise/nullwise/Function" "mostArguments" "I" (.int (1 : Int32))) (S_RANGE : Sta Z h0 "com/example/nullwise/nullwise/Function" "RANGE" "Lcom/example/nullwise/nullwise/Function;" (.ref s_RANGE)) (E_RANGE : Exa Z h0 s_RANGE "com/example/nullwise/nullwise/Function") (F_fewestArguments_RANGE : Fld Z h0 s_RANGE "com/example/nullwise/nullwise/Function" "fewestArguments" "I" (.int (2 : Int32))) (F_mostArguments_RANGE : Fld Z h0 s_RANGE "com/example/nullwise/nullwise/Function" "mostArguments" "I" (.int (3 : Int32))) (S_NVL2 : Sta Z h0 "com/example/nullwise/nullwise/Function" "NVL2" "Lcom/example/nullwise/nullwise/Function;" (.ref s_NVL2)) (E_NVL2 : Exa Z h0 s_NVL2 "com/example/nullwise/nullwise/Function") (F_fewestArguments_NVL2 : Fld Z h0 s_NVL2 "com/example/nullwise/nullwise/Function" "fewestArguments" "I" (.int (3 : Int32))) (S_ATLEASTNNONNULLS : Sta Z h0 "com/example/nullwise/nullwise/Function" "ATLEASTNNONNULLS" "Lcom/example/nullwise/nullwise/Function;" (.ref s_ATLEASTNNONNULLS)) (E_ATLEASTNNONNULLS : Exa Z h0 s_ATLEASTNNONNULLS "com/example/nullwise/nullwise/Function") (F_fewestArguments_ATLEASTNNONNULLS : Fld Z h0 s_ATLEASTNNONNULLS "com/example/nullwise/nullwise/Function" "fewestArguments" "I" (.int (1 : Int32))) (S_CONCAT : Sta Z h0 "com/example/nullwise/nullwise/Function" "CONCAT" "Lcom/example/nullwise/nullwise/Function;" (.ref s_CONCAT)) (E_CONCAT : Exa Z h0 s_CONCAT "com/example/nullwise/nullwise/Function") (F_fewestArguments_CONCAT : Fld Z h0 s_CONCAT "com/example/nullwise/nullwise/Function" "fewestArguments" "I" (.int (1 : Int32))) (F_mostArguments_CONCAT : Fld Z h0 s_CONCAT "com/example/nullwise/nullwise/Function" "mostArguments" "I" (.int (2147483647 : Int32))) (S_IFNULL : Sta Z h0 "com/example/nullwise/nullwise/Function" "IFNULL" "Lcom/example/nullwise/nullwise/Function;" (.ref s_IFNULL)) (E_IFNULL : Exa Z h0 s_IFNULL "com/example/nullwise/nullwise/Function") (F_fewestArguments_IFNULL : Fld Z h0 s_IFNULL "com/example/nullwise/nullwise/Function" "fewestArguments" "I" (.int (2 : Int32))) (F_mostArguments_IFNULL : Fld Z h0 s_IFNULL "com/example/nullwise/nullwise/Function" "mostArguments" "I" (.int (2 : Int32))) (S_NULLIF : Sta Z h0 "com/example/nullwise/nullwise/Function" "NULLIF" "Lcom/example/nullwise/nullwise/Function;" (.ref s_NULLIF)) (E_NULLIF : Exa Z h0 s_NULLIF "com/example/nullwise/nullwise/Function") (F_fewestArguments_NULLIF : Fld Z h0 s_NULLIF "com/example/nullwise/nullwise/Function" "fewestArguments" "I" (.int (2 : Int32))) (F_mostArguments_NULLIF : Fld Z h0 s_NULLIF "com/example/nullwise/nullwise/Function" "mostArguments" "I" (.int (2 : Int32))) (S_COALESCE : Sta Z h0 "com/example/nullwise/nullwise/Function" "COALESCE" "Lcom/example/nullwise/nullwise/Function;" (.ref s_COALESCE)) (E_COALESCE : Exa Z h0 s_COALESCE "com/example/nullwise/nullwise/Function") (F_fewestArguments_COALESCE : Fld Z h0 s_COALESCE "com/example/nullwise/nullwise/Function" "fewestArguments" "I" (.int (1 : Int32))) (F_mostArguments_COALESCE : Fld Z h0 s_COALESCE "com/example/nullwise/nullwise/Function" "mostArguments" "I" (.int (2147483647 : Int32))) (F_mostArguments_ATLEASTNNONNULLS : Fld Z h0 s_ATLEASTNNONNULLS "com/example/nullwise/nullwise/Function" "mostArguments" "I" (.int (2147483647 : Int32))) (F_mostArguments_NVL2 : Fld Z h0 s_NVL2 "com/example/nullwise/nullwise/Function" "mostArguments" "I" (.int (3 : Int32))) :
    MetFree l (⟨"com/example/nullwise/nullwise/Function", "takes", "(I)Z"⟩ : MethodName) (head1 (Jvm.Cond.code (⟨"com/example/nullwise/nullwise/Function", "takes", "(I)Z"⟩ : MethodName) prog_41_method_6_code 2 (some .boolean) :: ws) ({ frames := 0, cells := 0, slots := 0, locals := 0 } : Room)) (fun a U => a = #[(.ref s_IFNULL), (.int p2)] ∧ Z.Warmed39 U.vm ∧ U.heap = h0) (fun _ _ _ _ _ => True) (fun _ U o U' => ∃ v L, o = .returned v ∧ Q1_3 Z p2 s_ABS s_RANGE s_NVL2 s_ATLEASTNNONNULLS s_CONCAT s_IFNULL s_NULLIF s_COALESCE h0 v U'.heap L ∧ FrameEnd U o U' L ({ frames := 0, cells := 0, slots := 0, locals := 0 } : Room).cells ({ frames := 0, cells := 0, slots := 0, locals := 0 } : Room).slots) := by
  refine MetFree.of_bodySF (plainFor_of_name pn_0) hisR ?_
  intro p e s m args below meth c s₁ Bd hml0 hP hK
  obtain ⟨rfl, hZ, hh⟩ := hP
  have hx := Bd.exec
  have hby := Bd.bytes
  have hml : c.maxLocals = 2 := hml0
  have hown : s.vm.findClass "com/example/nullwise/nullwise/Function" = some m.cls := findClass_of_methodNamed Bd.named
  have hnm := (name_of_methodNamed Bd.named Bd.method).1
  have X0 : Stand p l e ({ frames := 0, cells := 0, slots := 0, locals := 0 } : Room) s m #[(.ref s_IFNULL), (.int p2)] below meth c s₁ [] 0 0 := Stand.of_body Bd
  have e0 : s₁.heap = h0 := by rw [← hh, Bd.state]; rfl
  have pre0 : ∀ t, Steps p.tables e below (s₁.setTop (mkF m 0 #[.val (.ref s_IFNULL), .val (.int p2)] [])) t → Steps p.tables e below (s₁.setTop (entryFrame m #[(.ref s_IFNULL), (.int p2)] 2)) t := fun t k => castTop (ef_1_3 m s_IFNULL p2) k
  obtain ⟨T1, X1, e1, st1⟩ := getF X0 hx hZ hown (host := "") (Or.inl (hw _ (List.mem_of_getElem? (i := 9) rfl))) Via.refl e0 F_fewestArguments_IFNULL (g := (mkF m 2 #[vR s_IFNULL, vI p2] [iR s_IFNULL, iI p2])) rfl rfl (hb hby d1_2)
  obtain ⟨v2, hv2⟩ : ∃ z : Int32, z = (if p2 < (2 : Int32) then (0 : Int32) else (if (2 : Int32) < p2 then (0 : Int32) else (1 : Int32))) := ⟨_, rfl⟩
  obtain ⟨T3, X3, e3, st3⟩ : own_Mid X1 h0 (mkF m 5 #[vR s_IFNULL, vI p2] [iI 2, iI p2]) (mkF m 21 #[vR s_IFNULL, vI p2] [iI v2]) := by
    by_cases hc4 : p2 < (2 : Int32)
    · refine ⟨T1, X1, e1, fun t kt => ?_⟩
      subst hv2
      simp only [if_pos hc4] at kt
      show Steps _ _ _ (T1.setTop (mkF m 5 #[vR s_IFNULL, vI p2] [iI 2, iI p2])) _
      refine XS.icmpYes X1.here hx rfl (pc0 := 5) (pc' := 20) rfl (hb hby d1_5) rfl (tlt hc4).1 (by decide) (by decide) ?_
      show Steps _ _ _ (T1.setTop (mkF m 20 #[vR s_IFNULL, vI p2] [])) _
      refine XS.iconst X1.here hx rfl (hb hby d1_20) ?_
      exact kt
    · obtain ⟨T5, X5, e5, st5⟩ := getF X1 hx hZ hown (host := "") (Or.inl (hw _ (List.mem_of_getElem? (i := 11) rfl))) Via.refl e1 F_mostArguments_IFNULL (g := (mkF m 10 #[vR s_IFNULL, vI p2] [iR s_IFNULL, iI p2])) rfl rfl (hb hby d1_10)
      have pre7 : ∀ t, Steps p.tables e below (T5.setTop (mkF m 13 #[vR s_IFNULL, vI p2] [iI 2, iI p2])) t → Steps p.tables e below (T1.setTop (mkF m 5 #[vR s_IFNULL, vI p2] [iI 2, iI p2])) t := by
        intro t kt
        show Steps _ _ _ (T1.setTop (mkF m 5 #[vR s_IFNULL, vI p2] [iI 2, iI p2])) _
        refine XS.icmpNo X1.here hx rfl (hb hby d1_5) rfl (flt hc4).1 ?_
        show Steps _ _ _ (T1.setTop (mkF m 8 #[vR s_IFNULL, vI p2] [])) _
        refine XS.iloadN X1.here hx rfl (hb hby d1_8) rfl ?_
        show Steps _ _ _ (T1.setTop (mkF m 9 #[vR s_IFNULL, vI p2] [iI p2])) _
        refine XS.aloadN X1.here hx rfl (hb hby d1_9) rfl rfl ?_
        show Steps _ _ _ (T1.setTop (mkF m 10 #[vR s_IFNULL, vI p2] [iR s_IFNULL, iI p2])) _
        refine st5 _ ?_
        exact kt
      by_cases hc6 : (2 : Int32) < p2
      · refine ⟨T5, X5, e5, fun t kt => ?_⟩
        subst hv2
        simp only [if_neg hc4, if_pos hc6] at kt
        refine pre7 t ?_
        show Steps _ _ _ (T5.setTop (mkF m 13 #[vR s_IFNULL, vI p2] [iI 2, iI p2])) _
        refine XS.icmpYes X5.here hx rfl (pc0 := 13) (pc' := 20) rfl (hb hby d1_13) rfl (tlt hc6).2.2.1 (by decide) (by decide) ?_
        show Steps _ _ _ (T5.setTop (mkF m 20 #[vR s_IFNULL, vI p2] [])) _
        refine XS.iconst X5.here hx rfl (hb hby d1_20) ?_
        exact kt
      · refine ⟨T5, X5, e5, fun t kt => ?_⟩
        subst hv2
        simp only [if_neg hc4, if_neg hc6] at kt
        refine pre7 t ?_
        show Steps _ _ _ (T5.setTop (mkF m 13 #[vR s_IFNULL, vI p2] [iI 2, iI p2])) _
        refine XS.icmpNo X5.here hx rfl (hb hby d1_13) rfl (flt hc6).2.2.1 ?_
        show Steps _ _ _ (T5.setTop (mkF m 16 #[vR s_IFNULL, vI p2] [])) _
        refine XS.iconst X5.here hx rfl (hb hby d1_16) ?_
        show Steps _ _ _ (T5.setTop (mkF m 17 #[vR s_IFNULL, vI p2] [iI 1])) _
        refine XS.goto X5.here hx rfl (pc0 := 17) (pc' := 21) rfl (hb hby d1_17) (by decide) (by decide) ?_
        exact kt
  obtain ⟨fs, hr, hrun, hended, hW, hsame⟩ := X3.leave (v := some (.int (nar .boolean v2))) (fun h => by rw [Bd.returns] at h; cases h)
  refine ⟨_, _, pre0 _ ?_, hrun, hended, _, _, rfl, ?_, ⟨_, rfl⟩, hW, hsame.mono (by decide) (by decide)⟩
  · show Steps _ _ _ (s₁.setTop (mkF m 0 #[vR s_IFNULL, vI p2] [])) _
    refine XS.iloadN X0.here hx rfl (hb hby d1_0) rfl ?_
    show Steps _ _ _ (s₁.setTop (mkF m 1 #[vR s_IFNULL, vI p2] [iI p2])) _
    refine XS.aloadN X0.here hx rfl (hb hby d1_1) rfl rfl ?_
    show Steps _ _ _ (s₁.setTop (mkF m 2 #[vR s_IFNULL, vI p2] [iR s_IFNULL, iI p2])) _
    refine st1 _ ?_
    show Steps _ _ _ (T1.setTop (mkF m 5 #[vR s_IFNULL, vI p2] [iI 2, iI p2])) _
    refine st3 _ ?_
    show Steps _ _ _ (T3.setTop (mkF m 21 #[vR s_IFNULL, vI p2] [iI v2])) _
    exact retN X3 hx (t := .boolean) Bd.returns (by simp) (hb hby d1_21) hr
  · show Q1_3 Z p2 s_ABS s_RANGE s_NVL2 s_ATLEASTNNONNULLS s_CONCAT s_IFNULL s_NULLIF s_COALESCE h0 _ T3.heap _
    rw [e3]
    exact ⟨by subst hv2; first | rfl | (simp only [own_tk_3]; done) | (simp only [own_tk_3]; rfl) | (simp only [own_tk_3, nar] ; first | rfl | (simp; done) | decide), rfl, rfl⟩
def own_tk_4 (p2 : Int32) : Int32 := (nar .boolean (if p2 < (3 : Int32) then (0 : Int32) else (if (3 : Int32) < p2 then (0 : Int32) else (1 : Int32))))
theorem ef_1_4 (m : MethodId) (x0 : Addr) (x1 : Int32) : entryFrame m #[(.ref x0), (.int x1)] 2 = mkF m 0 #[.val (.ref x0), .val (.int x1)] [] := by first | (simp [entryFrame, mkF, argsToLocals, Value.category]; done) | rfl
def Q1_4 (Z : State) (p2 : Int32) (s_ABS : Addr) (s_RANGE : Addr) (s_NVL2 : Addr) (s_ATLEASTNNONNULLS : Addr) (s_CONCAT : Addr) (s_IFNULL : Addr) (s_NULLIF : Addr) (s_COALESCE : Addr) (h0 : Heap) (v : Option Value) (h : Heap) (L : List Loc) : Prop := v = some (.int (own_tk_4 p2)) ∧ L = [] ∧ h = h0
set_option maxRecDepth 65536 in
set_option maxHeartbeats 40000000 in
theorem rm1_4 (l : Launch) (Z : State) (a0 : Array Value) (hw : ∀ d ∈ tables_1, d.before a0 Z = true) (ws : List Jvm.Cond) (p2 : Int32) (s_ABS : Addr) (s_RANGE : Addr) (s_NVL2 : Addr) (s_ATLEASTNNONNULLS : Addr) (s_CONCAT : Addr) (s_IFNULL : Addr) (s_NULLIF : Addr) (s_COALESCE : Addr) (h0 : Heap) (S_ABS : Sta Z h0 "com/example/nullwise/nullwise/Function" "ABS" "Lcom/example/nullwise/nullwise/Function;" (.ref s_ABS)) (E_ABS : Exa Z h0 s_ABS "com/example/nullwise/nullwise/Function") (F_fewestArguments_ABS : Fld Z h0 s_ABS "com/example/nullwise/nullwise/Function" "fewestArguments" "I" (.int (1 : Int32))) (F_mostArguments_ABS : Fld Z h0 s_ABS "com/example/nullwise/nullwise/Function" "mostArguments" "I" (.int (1 : Int32))) (S_RANGE : Sta Z h0 "com/example/nullwise/nullwise/Function" "RANGE" "Lcom/example/nullwise/nullwise/Function;" (.ref s_RANGE)) (E_RANGE : Exa Z h0 s_RANGE "com/example/nullwise/nullwise/Function") (F_fewestArguments_RANGE : Fld Z h0 s_RANGE "com/example/nullwise/nullwise/Function" "fewestArguments" "I" (.int (2 : Int32))) (F_mostArguments_RANGE : Fld Z h0 s_RANGE "com/example/nullwise/nullwise/Function" "mostArguments" "I" (.int (3 : Int32))) (S_NVL2 : Sta Z h0 "com/example/nullwise/nullwise/Function" "NVL2" "Lcom/example/nullwise/nullwise/Function;" (.ref s_NVL2)) (E_NVL2 : Exa Z h0 s_NVL2 "com/example/nullwise/nullwise/Function") (F_fewestArguments_NVL2 : Fld Z h0 s_NVL2 "com/example/nullwise/nullwise/Function" "fewestArguments" "I" (.int (3 : Int32))) (S_ATLEASTNNONNULLS : Sta Z h0 "com/example/nullwise/nullwise/Function" "ATLEASTNNONNULLS" "Lcom/example/nullwise/nullwise/Function;" (.ref s_ATLEASTNNONNULLS)) (E_ATLEASTNNONNULLS : Exa Z h0 s_ATLEASTNNONNULLS "com/example/nullwise/nullwise/Function") (F_fewestArguments_ATLEASTNNONNULLS : Fld Z h0 s_ATLEASTNNONNULLS "com/example/nullwise/nullwise/Function" "fewestArguments" "I" (.int (1 : Int32))) (S_CONCAT : Sta Z h0 "com/example/nullwise/nullwise/Function" "CONCAT" "Lcom/example/nullwise/nullwise/Function;" (.ref s_CONCAT)) (E_CONCAT : Exa Z h0 s_CONCAT "com/example/nullwise/nullwise/Function") (F_fewestArguments_CONCAT : Fld Z h0 s_CONCAT "com/example/nullwise/nullwise/Function" "fewestArguments" "I" (.int (1 : Int32))) (F_mostArguments_CONCAT : Fld Z h0 s_CONCAT "com/example/nullwise/nullwise/Function" "mostArguments" "I" (.int (2147483647 : Int32))) (S_IFNULL : Sta Z h0 "com/example/nullwise/nullwise/Function" "IFNULL" "Lcom/example/nullwise/nullwise/Function;" (.ref s_IFNULL)) (E_IFNULL : Exa Z h0 s_IFNULL "com/example/nullwise/nullwise/Function") (F_fewestArguments_IFNULL : Fld Z h0 s_IFNULL "com/example/nullwise/nullwise/Function" "fewestArguments" "I" (.int (2 : Int32))) (F_mostArguments_IFNULL : Fld Z h0 s_IFNULL "com/example/nullwise/nullwise/Function" "mostArguments" "I" (.int (2 : Int32))) (S_NULLIF : Sta Z h0 "com/example/nullwise/nullwise/Function" "NULLIF" "Lcom/example/nullwise/nullwise/Function;" (.ref s_NULLIF)) (E_NULLIF : Exa Z h0 s_NULLIF "com/example/nullwise/nullwise/Function") (F_fewestArguments_NULLIF : Fld Z h0 s_NULLIF "com/example/nullwise/nullwise/Function" "fewestArguments" "I" (.int (2 : Int32))) (F_mostArguments_NULLIF : Fld Z h0 s_NULLIF "com/example/nullwise/nullwise/Function" "mostArguments" "I" (.int (2 : Int32))) (S_COALESCE : Sta Z h0 "com/example/nullwise/nullwise/Function" "COALESCE" "Lcom/example/nullwise/nullwise/Function;" (.ref s_COALESCE)) (E_COALESCE : Exa Z h0 s_COALESCE "com/example/nullwise/nullwise/Function") (F_fewestArguments_COALESCE : Fld Z h0 s_COALESCE "com/example/nullwise/nullwise/Function" "fewestArguments" "I" (.int (1 : Int32))) (F_mostArguments_COALESCE : Fld Z h0 s_COALESCE "com/example/nullwise/nullwise/Function" "mostArguments" "I" (.int (2147483647 : Int32))) (F_mostArguments_ATLEASTNNONNULLS : Fld Z h0 s_ATLEASTNNONNULLS "com/example/nullwise/nullwise/Function" "mostArguments" "I" (.int (2147483647 : Int32))) (F_mostArguments_NVL2 : Fld Z h0 s_NVL2 "com/example/nullwise/nullwise/Function" "mostArguments" "I" (.int (3 : Int32))) :
    MetFree l (⟨"com/example/nullwise/nullwise/Function", "takes", "(I)Z"⟩ : MethodName) (head1 (Jvm.Cond.code (⟨"com/example/nullwise/nullwise/Function", "takes", "(I)Z"⟩ : MethodName) prog_41_method_6_code 2 (some .boolean) :: ws) ({ frames := 0, cells := 0, slots := 0, locals := 0 } : Room)) (fun a U => a = #[(.ref s_NVL2), (.int p2)] ∧ Z.Warmed39 U.vm ∧ U.heap = h0) (fun _ _ _ _ _ => True) (fun _ U o U' => ∃ v L, o = .returned v ∧ Q1_4 Z p2 s_ABS s_RANGE s_NVL2 s_ATLEASTNNONNULLS s_CONCAT s_IFNULL s_NULLIF s_COALESCE h0 v U'.heap L ∧ FrameEnd U o U' L ({ frames := 0, cells := 0, slots := 0, locals := 0 } : Room).cells ({ frames := 0, cells := 0, slots := 0, locals := 0 } : Room).slots) := by
  refine MetFree.of_bodySF (plainFor_of_name pn_0) hisR ?_
  intro p e s m args below meth c s₁ Bd hml0 hP hK
  obtain ⟨rfl, hZ, hh⟩ := hP
  have hx := Bd.exec
  have hby := Bd.bytes
  have hml : c.maxLocals = 2 := hml0
  have hown : s.vm.findClass "com/example/nullwise/nullwise/Function" = some m.cls := findClass_of_methodNamed Bd.named
  have hnm := (name_of_methodNamed Bd.named Bd.method).1
  have X0 : Stand p l e ({ frames := 0, cells := 0, slots := 0, locals := 0 } : Room) s m #[(.ref s_NVL2), (.int p2)] below meth c s₁ [] 0 0 := Stand.of_body Bd
  have e0 : s₁.heap = h0 := by rw [← hh, Bd.state]; rfl
  have pre0 : ∀ t, Steps p.tables e below (s₁.setTop (mkF m 0 #[.val (.ref s_NVL2), .val (.int p2)] [])) t → Steps p.tables e below (s₁.setTop (entryFrame m #[(.ref s_NVL2), (.int p2)] 2)) t := fun t k => castTop (ef_1_4 m s_NVL2 p2) k
  obtain ⟨T1, X1, e1, st1⟩ := getF X0 hx hZ hown (host := "") (Or.inl (hw _ (List.mem_of_getElem? (i := 9) rfl))) Via.refl e0 F_fewestArguments_NVL2 (g := (mkF m 2 #[vR s_NVL2, vI p2] [iR s_NVL2, iI p2])) rfl rfl (hb hby d1_2)
  obtain ⟨v2, hv2⟩ : ∃ z : Int32, z = (if p2 < (3 : Int32) then (0 : Int32) else (if (3 : Int32) < p2 then (0 : Int32) else (1 : Int32))) := ⟨_, rfl⟩
  obtain ⟨T3, X3, e3, st3⟩ : own_Mid X1 h0 (mkF m 5 #[vR s_NVL2, vI p2] [iI 3, iI p2]) (mkF m 21 #[vR s_NVL2, vI p2] [iI v2]) := by
    by_cases hc4 : p2 < (3 : Int32)
    · refine ⟨T1, X1, e1, fun t kt => ?_⟩
      subst hv2
      simp only [if_pos hc4] at kt
      show Steps _ _ _ (T1.setTop (mkF m 5 #[vR s_NVL2, vI p2] [iI 3, iI p2])) _
      refine XS.icmpYes X1.here hx rfl (pc0 := 5) (pc' := 20) rfl (hb hby d1_5) rfl (tlt hc4).1 (by decide) (by decide) ?_
      show Steps _ _ _ (T1.setTop (mkF m 20 #[vR s_NVL2, vI p2] [])) _
      refine XS.iconst X1.here hx rfl (hb hby d1_20) ?_
      exact kt
    · obtain ⟨T5, X5, e5, st5⟩ := getF X1 hx hZ hown (host := "") (Or.inl (hw _ (List.mem_of_getElem? (i := 11) rfl))) Via.refl e1 F_mostArguments_NVL2 (g := (mkF m 10 #[vR s_NVL2, vI p2] [iR s_NVL2, iI p2])) rfl rfl (hb hby d1_10)
      have pre7 : ∀ t, Steps p.tables e below (T5.setTop (mkF m 13 #[vR s_NVL2, vI p2] [iI 3, iI p2])) t → Steps p.tables e below (T1.setTop (mkF m 5 #[vR s_NVL2, vI p2] [iI 3, iI p2])) t := by
        intro t kt
        show Steps _ _ _ (T1.setTop (mkF m 5 #[vR s_NVL2, vI p2] [iI 3, iI p2])) _
        refine XS.icmpNo X1.here hx rfl (hb hby d1_5) rfl (flt hc4).1 ?_
        show Steps _ _ _ (T1.setTop (mkF m 8 #[vR s_NVL2, vI p2] [])) _
        refine XS.iloadN X1.here hx rfl (hb hby d1_8) rfl ?_
        show Steps _ _ _ (T1.setTop (mkF m 9 #[vR s_NVL2, vI p2] [iI p2])) _
        refine XS.aloadN X1.here hx rfl (hb hby d1_9) rfl rfl ?_
        show Steps _ _ _ (T1.setTop (mkF m 10 #[vR s_NVL2, vI p2] [iR s_NVL2, iI p2])) _
        refine st5 _ ?_
        exact kt
      by_cases hc6 : (3 : Int32) < p2
      · refine ⟨T5, X5, e5, fun t kt => ?_⟩
        subst hv2
        simp only [if_neg hc4, if_pos hc6] at kt
        refine pre7 t ?_
        show Steps _ _ _ (T5.setTop (mkF m 13 #[vR s_NVL2, vI p2] [iI 3, iI p2])) _
        refine XS.icmpYes X5.here hx rfl (pc0 := 13) (pc' := 20) rfl (hb hby d1_13) rfl (tlt hc6).2.2.1 (by decide) (by decide) ?_
        show Steps _ _ _ (T5.setTop (mkF m 20 #[vR s_NVL2, vI p2] [])) _
        refine XS.iconst X5.here hx rfl (hb hby d1_20) ?_
        exact kt
      · refine ⟨T5, X5, e5, fun t kt => ?_⟩
        subst hv2
        simp only [if_neg hc4, if_neg hc6] at kt
        refine pre7 t ?_
        show Steps _ _ _ (T5.setTop (mkF m 13 #[vR s_NVL2, vI p2] [iI 3, iI p2])) _
        refine XS.icmpNo X5.here hx rfl (hb hby d1_13) rfl (flt hc6).2.2.1 ?_
        show Steps _ _ _ (T5.setTop (mkF m 16 #[vR s_NVL2, vI p2] [])) _
        refine XS.iconst X5.here hx rfl (hb hby d1_16) ?_
        show Steps _ _ _ (T5.setTop (mkF m 17 #[vR s_NVL2, vI p2] [iI 1])) _
        refine XS.goto X5.here hx rfl (pc0 := 17) (pc' := 21) rfl (hb hby d1_17) (by decide) (by decide) ?_
        exact kt
  obtain ⟨fs, hr, hrun, hended, hW, hsame⟩ := X3.leave (v := some (.int (nar .boolean v2))) (fun h => by rw [Bd.returns] at h; cases h)
  refine ⟨_, _, pre0 _ ?_, hrun, hended, _, _, rfl, ?_, ⟨_, rfl⟩, hW, hsame.mono (by decide) (by decide)⟩
  · show Steps _ _ _ (s₁.setTop (mkF m 0 #[vR s_NVL2, vI p2] [])) _
    refine XS.iloadN X0.here hx rfl (hb hby d1_0) rfl ?_
    show Steps _ _ _ (s₁.setTop (mkF m 1 #[vR s_NVL2, vI p2] [iI p2])) _
    refine XS.aloadN X0.here hx rfl (hb hby d1_1) rfl rfl ?_
    show Steps _ _ _ (s₁.setTop (mkF m 2 #[vR s_NVL2, vI p2] [iR s_NVL2, iI p2])) _
    refine st1 _ ?_
    show Steps _ _ _ (T1.setTop (mkF m 5 #[vR s_NVL2, vI p2] [iI 3, iI p2])) _
    refine st3 _ ?_
    show Steps _ _ _ (T3.setTop (mkF m 21 #[vR s_NVL2, vI p2] [iI v2])) _
    exact retN X3 hx (t := .boolean) Bd.returns (by simp) (hb hby d1_21) hr
  · show Q1_4 Z p2 s_ABS s_RANGE s_NVL2 s_ATLEASTNNONNULLS s_CONCAT s_IFNULL s_NULLIF s_COALESCE h0 _ T3.heap _
    rw [e3]
    exact ⟨by subst hv2; first | rfl | (simp only [own_tk_4]; done) | (simp only [own_tk_4]; rfl) | (simp only [own_tk_4, nar] ; first | rfl | (simp; done) | decide), rfl, rfl⟩
def own_tk_5 (p2 : Int32) : Int32 := (nar .boolean (if p2 < (2 : Int32) then (0 : Int32) else (if (2 : Int32) < p2 then (0 : Int32) else (1 : Int32))))
theorem ef_1_5 (m : MethodId) (x0 : Addr) (x1 : Int32) : entryFrame m #[(.ref x0), (.int x1)] 2 = mkF m 0 #[.val (.ref x0), .val (.int x1)] [] := by first | (simp [entryFrame, mkF, argsToLocals, Value.category]; done) | rfl
def Q1_5 (Z : State) (p2 : Int32) (s_ABS : Addr) (s_RANGE : Addr) (s_NVL2 : Addr) (s_ATLEASTNNONNULLS : Addr) (s_CONCAT : Addr) (s_IFNULL : Addr) (s_NULLIF : Addr) (s_COALESCE : Addr) (h0 : Heap) (v : Option Value) (h : Heap) (L : List Loc) : Prop := v = some (.int (own_tk_5 p2)) ∧ L = [] ∧ h = h0
set_option maxRecDepth 65536 in
set_option maxHeartbeats 40000000 in
theorem rm1_5 (l : Launch) (Z : State) (a0 : Array Value) (hw : ∀ d ∈ tables_1, d.before a0 Z = true) (ws : List Jvm.Cond) (p2 : Int32) (s_ABS : Addr) (s_RANGE : Addr) (s_NVL2 : Addr) (s_ATLEASTNNONNULLS : Addr) (s_CONCAT : Addr) (s_IFNULL : Addr) (s_NULLIF : Addr) (s_COALESCE : Addr) (h0 : Heap) (S_ABS : Sta Z h0 "com/example/nullwise/nullwise/Function" "ABS" "Lcom/example/nullwise/nullwise/Function;" (.ref s_ABS)) (E_ABS : Exa Z h0 s_ABS "com/example/nullwise/nullwise/Function") (F_fewestArguments_ABS : Fld Z h0 s_ABS "com/example/nullwise/nullwise/Function" "fewestArguments" "I" (.int (1 : Int32))) (F_mostArguments_ABS : Fld Z h0 s_ABS "com/example/nullwise/nullwise/Function" "mostArguments" "I" (.int (1 : Int32))) (S_RANGE : Sta Z h0 "com/example/nullwise/nullwise/Function" "RANGE" "Lcom/example/nullwise/nullwise/Function;" (.ref s_RANGE)) (E_RANGE : Exa Z h0 s_RANGE "com/example/nullwise/nullwise/Function") (F_fewestArguments_RANGE : Fld Z h0 s_RANGE "com/example/nullwise/nullwise/Function" "fewestArguments" "I" (.int (2 : Int32))) (F_mostArguments_RANGE : Fld Z h0 s_RANGE "com/example/nullwise/nullwise/Function" "mostArguments" "I" (.int (3 : Int32))) (S_NVL2 : Sta Z h0 "com/example/nullwise/nullwise/Function" "NVL2" "Lcom/example/nullwise/nullwise/Function;" (.ref s_NVL2)) (E_NVL2 : Exa Z h0 s_NVL2 "com/example/nullwise/nullwise/Function") (F_fewestArguments_NVL2 : Fld Z h0 s_NVL2 "com/example/nullwise/nullwise/Function" "fewestArguments" "I" (.int (3 : Int32))) (S_ATLEASTNNONNULLS : Sta Z h0 "com/example/nullwise/nullwise/Function" "ATLEASTNNONNULLS" "Lcom/example/nullwise/nullwise/Function;" (.ref s_ATLEASTNNONNULLS)) (E_ATLEASTNNONNULLS : Exa Z h0 s_ATLEASTNNONNULLS "com/example/nullwise/nullwise/Function") (F_fewestArguments_ATLEASTNNONNULLS : Fld Z h0 s_ATLEASTNNONNULLS "com/example/nullwise/nullwise/Function" "fewestArguments" "I" (.int (1 : Int32))) (S_CONCAT : Sta Z h0 "com/example/nullwise/nullwise/Function" "CONCAT" "Lcom/example/nullwise/nullwise/Function;" (.ref s_CONCAT)) (E_CONCAT : Exa Z h0 s_CONCAT "com/example/nullwise/nullwise/Function") (F_fewestArguments_CONCAT : Fld Z h0 s_CONCAT "com/example/nullwise/nullwise/Function" "fewestArguments" "I" (.int (1 : Int32))) (F_mostArguments_CONCAT : Fld Z h0 s_CONCAT "com/example/nullwise/nullwise/Function" "mostArguments" "I" (.int (2147483647 : Int32))) (S_IFNULL : Sta Z h0 "com/example/nullwise/nullwise/Function" "IFNULL" "Lcom/example/nullwise/nullwise/Function;" (.ref s_IFNULL)) (E_IFNULL : Exa Z h0 s_IFNULL "com/example/nullwise/nullwise/Function") (F_fewestArguments_IFNULL : Fld Z h0 s_IFNULL "com/example/nullwise/nullwise/Function" "fewestArguments" "I" (.int (2 : Int32))) (F_mostArguments_IFNULL : Fld Z h0 s_IFNULL "com/example/nullwise/nullwise/Function" "mostArguments" "I" (.int (2 : Int32))) (S_NULLIF : Sta Z h0 "com/example/nullwise/nullwise/Function" "NULLIF" "Lcom/example/nullwise/nullwise/Function;" (.ref s_NULLIF)) (E_NULLIF : Exa Z h0 s_NULLIF "com/example/nullwise/nullwise/Function") (F_fewestArguments_NULLIF : Fld Z h0 s_NULLIF "com/example/nullwise/nullwise/Function" "fewestArguments" "I" (.int (2 : Int32))) (F_mostArguments_NULLIF : Fld Z h0 s_NULLIF "com/example/nullwise/nullwise/Function" "mostArguments" "I" (.int (2 : Int32))) (S_COALESCE : Sta Z h0 "com/example/nullwise/nullwise/Function" "COALESCE" "Lcom/example/nullwise/nullwise/Function;" (.ref s_COALESCE)) (E_COALESCE : Exa Z h0 s_COALESCE "com/example/nullwise/nullwise/Function") (F_fewestArguments_COALESCE : Fld Z h0 s_COALESCE "com/example/nullwise/nullwise/Function" "fewestArguments" "I" (.int (1 : Int32))) (F_mostArguments_COALESCE : Fld Z h0 s_COALESCE "com/example/nullwise/nullwise/Function" "mostArguments" "I" (.int (2147483647 : Int32))) (F_mostArguments_ATLEASTNNONNULLS : Fld Z h0 s_ATLEASTNNONNULLS "com/example/nullwise/nullwise/Function" "mostArguments" "I" (.int (2147483647 : Int32))) (F_mostArguments_NVL2 : Fld Z h0 s_NVL2 "com/example/nullwise/nullwise/Function" "mostArguments" "I" (.int (3 : Int32))) :
    MetFree l (⟨"com/example/nullwise/nullwise/Function", "takes", "(I)Z"⟩ : MethodName) (head1 (Jvm.Cond.code (⟨"com/example/nullwise/nullwise/Function", "takes", "(I)Z"⟩ : MethodName) prog_41_method_6_code 2 (some .boolean) :: ws) ({ frames := 0, cells := 0, slots := 0, locals := 0 } : Room)) (fun a U => a = #[(.ref s_NULLIF), (.int p2)] ∧ Z.Warmed39 U.vm ∧ U.heap = h0) (fun _ _ _ _ _ => True) (fun _ U o U' => ∃ v L, o = .returned v ∧ Q1_5 Z p2 s_ABS s_RANGE s_NVL2 s_ATLEASTNNONNULLS s_CONCAT s_IFNULL s_NULLIF s_COALESCE h0 v U'.heap L ∧ FrameEnd U o U' L ({ frames := 0, cells := 0, slots := 0, locals := 0 } : Room).cells ({ frames := 0, cells := 0, slots := 0, locals := 0 } : Room).slots) := by
  refine MetFree.of_bodySF (plainFor_of_name pn_0) hisR ?_
  intro p e s m args below meth c s₁ Bd hml0 hP hK
  obtain ⟨rfl, hZ, hh⟩ := hP
  have hx := Bd.exec
  have hby := Bd.bytes
  have hml : c.maxLocals = 2 := hml0
  have hown : s.vm.findClass "com/example/nullwise/nullwise/Function" = some m.cls := findClass_of_methodNamed Bd.named
  have hnm := (name_of_methodNamed Bd.named Bd.method).1
  have X0 : Stand p l e ({ frames := 0, cells := 0, slots := 0, locals := 0 } : Room) s m #[(.ref s_NULLIF), (.int p2)] below meth c s₁ [] 0 0 := Stand.of_body Bd
  have e0 : s₁.heap = h0 := by rw [← hh, Bd.state]; rfl
  have pre0 : ∀ t, Steps p.tables e below (s₁.setTop (mkF m 0 #[.val (.ref s_NULLIF), .val (.int p2)] [])) t → Steps p.tables e below (s₁.setTop (entryFrame m #[(.ref s_NULLIF), (.int p2)] 2)) t := fun t k => castTop (ef_1_5 m s_NULLIF p2) k
  obtain ⟨T1, X1, e1, st1⟩ := getF X0 hx hZ hown (host := "") (Or.inl (hw _ (List.mem_of_getElem? (i := 9) rfl))) Via.refl e0 F_fewestArguments_NULLIF (g := (mkF m 2 #[vR s_NULLIF, vI p2] [iR s_NULLIF, iI p2])) rfl rfl (hb hby d1_2)
  obtain ⟨v2, hv2⟩ : ∃ z : Int32, z = (if p2 < (2 : Int32) then (0 : Int32) else (if (2 : Int32) < p2 then (0 : Int32) else (1 : Int32))) := ⟨_, rfl⟩
  obtain ⟨T3, X3, e3, st3⟩ : own_Mid X1 h0 (mkF m 5 #[vR s_NULLIF, vI p2] [iI 2, iI p2]) (mkF m 21 #[vR s_NULLIF, vI p2] [iI v2]) := by
    by_cases hc4 : p2 < (2 : Int32)
    · refine ⟨T1, X1, e1, fun t kt => ?_⟩
      subst hv2
      simp only [if_pos hc4] at kt
      show Steps _ _ _ (T1.setTop (mkF m 5 #[vR s_NULLIF, vI p2] [iI 2, iI p2])) _
      refine XS.icmpYes X1.here hx rfl (pc0 := 5) (pc' := 20) rfl (hb hby d1_5) rfl (tlt hc4).1 (by decide) (by decide) ?_
      show Steps _ _ _ (T1.setTop (mkF m 20 #[vR s_NULLIF, vI p2] [])) _
      refine XS.iconst X1.here hx rfl (hb hby d1_20) ?_
      exact kt
    · obtain ⟨T5, X5, e5, st5⟩ := getF X1 hx hZ hown (host := "") (Or.inl (hw _ (List.mem_of_getElem? (i := 11) rfl))) Via.refl e1 F_mostArguments_NULLIF (g := (mkF m 10 #[vR s_NULLIF, vI p2] [iR s_NULLIF, iI p2])) rfl rfl (hb hby d1_10)
      have pre7 : ∀ t, Steps p.tables e below (T5.setTop (mkF m 13 #[vR s_NULLIF, vI p2] [iI 2, iI p2])) t → Steps p.tables e below (T1.setTop (mkF m 5 #[vR s_NULLIF, vI p2] [iI 2, iI p2])) t := by
        intro t kt
        show Steps _ _ _ (T1.setTop (mkF m 5 #[vR s_NULLIF, vI p2] [iI 2, iI p2])) _
        refine XS.icmpNo X1.here hx rfl (hb hby d1_5) rfl (flt hc4).1 ?_
        show Steps _ _ _ (T1.setTop (mkF m 8 #[vR s_NULLIF, vI p2] [])) _
        refine XS.iloadN X1.here hx rfl (hb hby d1_8) rfl ?_
        show Steps _ _ _ (T1.setTop (mkF m 9 #[vR s_NULLIF, vI p2] [iI p2])) _
        refine XS.aloadN X1.here hx rfl (hb hby d1_9) rfl rfl ?_
        show Steps _ _ _ (T1.setTop (mkF m 10 #[vR s_NULLIF, vI p2] [iR s_NULLIF, iI p2])) _
        refine st5 _ ?_
        exact kt
      by_cases hc6 : (2 : Int32) < p2
      · refine ⟨T5, X5, e5, fun t kt => ?_⟩
        subst hv2
        simp only [if_neg hc4, if_pos hc6] at kt
        refine pre7 t ?_
        show Steps _ _ _ (T5.setTop (mkF m 13 #[vR s_NULLIF, vI p2] [iI 2, iI p2])) _
        refine XS.icmpYes X5.here hx rfl (pc0 := 13) (pc' := 20) rfl (hb hby d1_13) rfl (tlt hc6).2.2.1 (by decide) (by decide) ?_
        show Steps _ _ _ (T5.setTop (mkF m 20 #[vR s_NULLIF, vI p2] [])) _
        refine XS.iconst X5.here hx rfl (hb hby d1_20) ?_
        exact kt
      · refine ⟨T5, X5, e5, fun t kt => ?_⟩
        subst hv2
        simp only [if_neg hc4, if_neg hc6] at kt
        refine pre7 t ?_
        show Steps _ _ _ (T5.setTop (mkF m 13 #[vR s_NULLIF, vI p2] [iI 2, iI p2])) _
        refine XS.icmpNo X5.here hx rfl (hb hby d1_13) rfl (flt hc6).2.2.1 ?_
        show Steps _ _ _ (T5.setTop (mkF m 16 #[vR s_NULLIF, vI p2] [])) _
        refine XS.iconst X5.here hx rfl (hb hby d1_16) ?_
        show Steps _ _ _ (T5.setTop (mkF m 17 #[vR s_NULLIF, vI p2] [iI 1])) _
        refine XS.goto X5.here hx rfl (pc0 := 17) (pc' := 21) rfl (hb hby d1_17) (by decide) (by decide) ?_
        exact kt
  obtain ⟨fs, hr, hrun, hended, hW, hsame⟩ := X3.leave (v := some (.int (nar .boolean v2))) (fun h => by rw [Bd.returns] at h; cases h)
  refine ⟨_, _, pre0 _ ?_, hrun, hended, _, _, rfl, ?_, ⟨_, rfl⟩, hW, hsame.mono (by decide) (by decide)⟩
  · show Steps _ _ _ (s₁.setTop (mkF m 0 #[vR s_NULLIF, vI p2] [])) _
    refine XS.iloadN X0.here hx rfl (hb hby d1_0) rfl ?_
    show Steps _ _ _ (s₁.setTop (mkF m 1 #[vR s_NULLIF, vI p2] [iI p2])) _
    refine XS.aloadN X0.here hx rfl (hb hby d1_1) rfl rfl ?_
    show Steps _ _ _ (s₁.setTop (mkF m 2 #[vR s_NULLIF, vI p2] [iR s_NULLIF, iI p2])) _
    refine st1 _ ?_
    show Steps _ _ _ (T1.setTop (mkF m 5 #[vR s_NULLIF, vI p2] [iI 2, iI p2])) _
    refine st3 _ ?_
    show Steps _ _ _ (T3.setTop (mkF m 21 #[vR s_NULLIF, vI p2] [iI v2])) _
    exact retN X3 hx (t := .boolean) Bd.returns (by simp) (hb hby d1_21) hr
  · show Q1_5 Z p2 s_ABS s_RANGE s_NVL2 s_ATLEASTNNONNULLS s_CONCAT s_IFNULL s_NULLIF s_COALESCE h0 _ T3.heap _
    rw [e3]
    exact ⟨by subst hv2; first | rfl | (simp only [own_tk_5]; done) | (simp only [own_tk_5]; rfl) | (simp only [own_tk_5, nar] ; first | rfl | (simp; done) | decide), rfl, rfl⟩
def own_tk_6 (p2 : Int32) : Int32 := (nar .boolean (if p2 < (1 : Int32) then (0 : Int32) else (if (2147483647 : Int32) < p2 then (0 : Int32) else (1 : Int32))))
theorem ef_1_6 (m : MethodId) (x0 : Addr) (x1 : Int32) : entryFrame m #[(.ref x0), (.int x1)] 2 = mkF m 0 #[.val (.ref x0), .val (.int x1)] [] := by first | (simp [entryFrame, mkF, argsToLocals, Value.category]; done) | rfl
def Q1_6 (Z : State) (p2 : Int32) (s_ABS : Addr) (s_RANGE : Addr) (s_NVL2 : Addr) (s_ATLEASTNNONNULLS : Addr) (s_CONCAT : Addr) (s_IFNULL : Addr) (s_NULLIF : Addr) (s_COALESCE : Addr) (h0 : Heap) (v : Option Value) (h : Heap) (L : List Loc) : Prop := v = some (.int (own_tk_6 p2)) ∧ L = [] ∧ h = h0
set_option maxRecDepth 65536 in
set_option maxHeartbeats 40000000 in
theorem rm1_6 (l : Launch) (Z : State) (a0 : Array Value) (hw : ∀ d ∈ tables_1, d.before a0 Z = true) (ws : List Jvm.Cond) (p2 : Int32) (s_ABS : Addr) (s_RANGE : Addr) (s_NVL2 : Addr) (s_ATLEASTNNONNULLS : Addr) (s_CONCAT : Addr) (s_IFNULL : Addr) (s_NULLIF : Addr) (s_COALESCE : Addr) (h0 : Heap) (S_ABS : Sta Z h0 "com/example/nullwise/nullwise/Function" "ABS" "Lcom/example/nullwise/nullwise/Function;" (.ref s_ABS)) (E_ABS : Exa Z h0 s_ABS "com/example/nullwise/nullwise/Function") (F_fewestArguments_ABS : Fld Z h0 s_ABS "com/example/nullwise/nullwise/Function" "fewestArguments" "I" (.int (1 : Int32))) (F_mostArguments_ABS : Fld Z h0 s_ABS "com/example/nullwise/nullwise/Function" "mostArguments" "I" (.int (1 : Int32))) (S_RANGE : Sta Z h0 "com/example/nullwise/nullwise/Function" "RANGE" "Lcom/example/nullwise/nullwise/Function;" (.ref s_RANGE)) (E_RANGE : Exa Z h0 s_RANGE "com/example/nullwise/nullwise/Function") (F_fewestArguments_RANGE : Fld Z h0 s_RANGE "com/example/nullwise/nullwise/Function" "fewestArguments" "I" (.int (2 : Int32))) (F_mostArguments_RANGE : Fld Z h0 s_RANGE "com/example/nullwise/nullwise/Function" "mostArguments" "I" (.int (3 : Int32))) (S_NVL2 : Sta Z h0 "com/example/nullwise/nullwise/Function" "NVL2" "Lcom/example/nullwise/nullwise/Function;" (.ref s_NVL2)) (E_NVL2 : Exa Z h0 s_NVL2 "com/example/nullwise/nullwise/Function") (F_fewestArguments_NVL2 : Fld Z h0 s_NVL2 "com/example/nullwise/nullwise/Function" "fewestArguments" "I" (.int (3 : Int32))) (S_ATLEASTNNONNULLS : Sta Z h0 "com/example/nullwise/nullwise/Function" "ATLEASTNNONNULLS" "Lcom/example/nullwise/nullwise/Function;" (.ref s_ATLEASTNNONNULLS)) (E_ATLEASTNNONNULLS : Exa Z h0 s_ATLEASTNNONNULLS "com/example/nullwise/nullwise/Function") (F_fewestArguments_ATLEASTNNONNULLS : Fld Z h0 s_ATLEASTNNONNULLS "com/example/nullwise/nullwise/Function" "fewestArguments" "I" (.int (1 : Int32))) (S_CONCAT : Sta Z h0 "com/example/nullwise/nullwise/Function" "CONCAT" "Lcom/example/nullwise/nullwise/Function;" (.ref s_CONCAT)) (E_CONCAT : Exa Z h0 s_CONCAT "com/example/nullwise/nullwise/Function") (F_fewestArguments_CONCAT : Fld Z h0 s_CONCAT "com/example/nullwise/nullwise/Function" "fewestArguments" "I" (.int (1 : Int32))) (F_mostArguments_CONCAT : Fld Z h0 s_CONCAT "com/example/nullwise/nullwise/Function" "mostArguments" "I" (.int (2147483647 : Int32))) (S_IFNULL : Sta Z h0 "com/example/nullwise/nullwise/Function" "IFNULL" "Lcom/example/nullwise/nullwise/Function;" (.ref s_IFNULL)) (E_IFNULL : Exa Z h0 s_IFNULL "com/example/nullwise/nullwise/Function") (F_fewestArguments_IFNULL : Fld Z h0 s_IFNULL "com/example/nullwise/nullwise/Function" "fewestArguments" "I" (.int (2 : Int32))) (F_mostArguments_IFNULL : Fld Z h0 s_IFNULL "com/example/nullwise/nullwise/Function" "mostArguments" "I" (.int (2 : Int32))) (S_NULLIF : Sta Z h0 "com/example/nullwise/nullwise/Function" "NULLIF" "Lcom/example/nullwise/nullwise/Function;" (.ref s_NULLIF)) (E_NULLIF : Exa Z h0 s_NULLIF "com/example/nullwise/nullwise/Function") (F_fewestArguments_NULLIF : Fld Z h0 s_NULLIF "com/example/nullwise/nullwise/Function" "fewestArguments" "I" (.int (2 : Int32))) (F_mostArguments_NULLIF : Fld Z h0 s_NULLIF "com/example/nullwise/nullwise/Function" "mostArguments" "I" (.int (2 : Int32))) (S_COALESCE : Sta Z h0 "com/example/nullwise/nullwise/Function" "COALESCE" "Lcom/example/nullwise/nullwise/Function;" (.ref s_COALESCE)) (E_COALESCE : Exa Z h0 s_COALESCE "com/example/nullwise/nullwise/Function") (F_fewestArguments_COALESCE : Fld Z h0 s_COALESCE "com/example/nullwise/nullwise/Function" "fewestArguments" "I" (.int (1 : Int32))) (F_mostArguments_COALESCE : Fld Z h0 s_COALESCE "com/example/nullwise/nullwise/Function" "mostArguments" "I" (.int (2147483647 : Int32))) (F_mostArguments_ATLEASTNNONNULLS : Fld Z h0 s_ATLEASTNNONNULLS "com/example/nullwise/nullwise/Function" "mostArguments" "I" (.int (2147483647 : Int32))) (F_mostArguments_NVL2 : Fld Z h0 s_NVL2 "com/example/nullwise/nullwise/Function" "mostArguments" "I" (.int (3 : Int32))) :
    MetFree l (⟨"com/example/nullwise/nullwise/Function", "takes", "(I)Z"⟩ : MethodName) (head1 (Jvm.Cond.code (⟨"com/example/nullwise/nullwise/Function", "takes", "(I)Z"⟩ : MethodName) prog_41_method_6_code 2 (some .boolean) :: ws) ({ frames := 0, cells := 0, slots := 0, locals := 0 } : Room)) (fun a U => a = #[(.ref s_COALESCE), (.int p2)] ∧ Z.Warmed39 U.vm ∧ U.heap = h0) (fun _ _ _ _ _ => True) (fun _ U o U' => ∃ v L, o = .returned v ∧ Q1_6 Z p2 s_ABS s_RANGE s_NVL2 s_ATLEASTNNONNULLS s_CONCAT s_IFNULL s_NULLIF s_COALESCE h0 v U'.heap L ∧ FrameEnd U o U' L ({ frames := 0, cells := 0, slots := 0, locals := 0 } : Room).cells ({ frames := 0, cells := 0, slots := 0, locals := 0 } : Room).slots) := by
  refine MetFree.of_bodySF (plainFor_of_name pn_0) hisR ?_
  intro p e s m args below meth c s₁ Bd hml0 hP hK
  obtain ⟨rfl, hZ, hh⟩ := hP
  have hx := Bd.exec
  have hby := Bd.bytes
  have hml : c.maxLocals = 2 := hml0
  have hown : s.vm.findClass "com/example/nullwise/nullwise/Function" = some m.cls := findClass_of_methodNamed Bd.named
  have hnm := (name_of_methodNamed Bd.named Bd.method).1
  have X0 : Stand p l e ({ frames := 0, cells := 0, slots := 0, locals := 0 } : Room) s m #[(.ref s_COALESCE), (.int p2)] below meth c s₁ [] 0 0 := Stand.of_body Bd
  have e0 : s₁.heap = h0 := by rw [← hh, Bd.state]; rfl
  have pre0 : ∀ t, Steps p.tables e below (s₁.setTop (mkF m 0 #[.val (.ref s_COALESCE), .val (.int p2)] [])) t → Steps p.tables e below (s₁.setTop (entryFrame m #[(.ref s_COALESCE), (.int p2)] 2)) t := fun t k => castTop (ef_1_6 m s_COALESCE p2) k
  obtain ⟨T1, X1, e1, st1⟩ := getF X0 hx hZ hown (host := "") (Or.inl (hw _ (List.mem_of_getElem? (i := 9) rfl))) Via.refl e0 F_fewestArguments_COALESCE (g := (mkF m 2 #[vR s_COALESCE, vI p2] [iR s_COALESCE, iI p2])) rfl rfl (hb hby d1_2)
  obtain ⟨v2, hv2⟩ : ∃ z : Int32, z = (if p2 < (1 : Int32) then (0 : Int32) else (if (2147483647 : Int32) < p2 then (0 : Int32) else (1 : Int32))) := ⟨_, rfl⟩
  obtain ⟨T3, X3, e3, st3⟩ : own_Mid X1 h0 (mkF m 5 #[vR s_COALESCE, vI p2] [iI 1, iI p2]) (mkF m 21 #[vR s_COALESCE, vI p2] [iI v2]) := by
    by_cases hc4 : p2 < (1 : Int32)
    · refine ⟨T1, X1, e1, fun t kt => ?_⟩
      subst hv2
      simp only [if_pos hc4] at kt
      show Steps _ _ _ (T1.setTop (mkF m 5 #[vR s_COALESCE, vI p2] [iI 1, iI p2])) _
      refine XS.icmpYes X1.here hx rfl (pc0 := 5) (pc' := 20) rfl (hb hby d1_5) rfl (tlt hc4).1 (by decide) (by decide) ?_
      show Steps _ _ _ (T1.setTop (mkF m 20 #[vR s_COALESCE, vI p2] [])) _
      refine XS.iconst X1.here hx rfl (hb hby d1_20) ?_
      exact kt
    · obtain ⟨T5, X5, e5, st5⟩ := getF X1 hx hZ hown (host := "") (Or.inl (hw _ (List.mem_of_getElem? (i := 11) rfl))) Via.refl e1 F_mostArguments_COALESCE (g := (mkF m 10 #[vR s_COALESCE, vI p2] [iR s_COALESCE, iI p2])) rfl rfl (hb hby d1_10)
      have pre7 : ∀ t, Steps p.tables e below (T5.setTop (mkF m 13 #[vR s_COALESCE, vI p2] [iI 2147483647, iI p2])) t → Steps p.tables e below (T1.setTop (mkF m 5 #[vR s_COALESCE, vI p2] [iI 1, iI p2])) t := by
        intro t kt
        show Steps _ _ _ (T1.setTop (mkF m 5 #[vR s_COALESCE, vI p2] [iI 1, iI p2])) _
        refine XS.icmpNo X1.here hx rfl (hb hby d1_5) rfl (flt hc4).1 ?_
        show Steps _ _ _ (T1.setTop (mkF m 8 #[vR s_COALESCE, vI p2] [])) _
        refine XS.iloadN X1.here hx rfl (hb hby d1_8) rfl ?_
        show Steps _ _ _ (T1.setTop (mkF m 9 #[vR s_COALESCE, vI p2] [iI p2])) _
        refine XS.aloadN X1.here hx rfl (hb hby d1_9) rfl rfl ?_
        show Steps _ _ _ (T1.setTop (mkF m 10 #[vR s_COALESCE, vI p2] [iR s_COALESCE, iI p2])) _
        refine st5 _ ?_
        exact kt
      by_cases hc6 : (2147483647 : Int32) < p2
      · refine ⟨T5, X5, e5, fun t kt => ?_⟩
        subst hv2
        simp only [if_neg hc4, if_pos hc6] at kt
        refine pre7 t ?_
        show Steps _ _ _ (T5.setTop (mkF m 13 #[vR s_COALESCE, vI p2] [iI 2147483647, iI p2])) _
        refine XS.icmpYes X5.here hx rfl (pc0 := 13) (pc' := 20) rfl (hb hby d1_13) rfl (tlt hc6).2.2.1 (by decide) (by decide) ?_
        show Steps _ _ _ (T5.setTop (mkF m 20 #[vR s_COALESCE, vI p2] [])) _
        refine XS.iconst X5.here hx rfl (hb hby d1_20) ?_
        exact kt
      · refine ⟨T5, X5, e5, fun t kt => ?_⟩
        subst hv2
        simp only [if_neg hc4, if_neg hc6] at kt
        refine pre7 t ?_
        show Steps _ _ _ (T5.setTop (mkF m 13 #[vR s_COALESCE, vI p2] [iI 2147483647, iI p2])) _
        refine XS.icmpNo X5.here hx rfl (hb hby d1_13) rfl (flt hc6).2.2.1 ?_
        show Steps _ _ _ (T5.setTop (mkF m 16 #[vR s_COALESCE, vI p2] [])) _
        refine XS.iconst X5.here hx rfl (hb hby d1_16) ?_
        show Steps _ _ _ (T5.setTop (mkF m 17 #[vR s_COALESCE, vI p2] [iI 1])) _
        refine XS.goto X5.here hx rfl (pc0 := 17) (pc' := 21) rfl (hb hby d1_17) (by decide) (by decide) ?_
        exact kt
  obtain ⟨fs, hr, hrun, hended, hW, hsame⟩ := X3.leave (v := some (.int (nar .boolean v2))) (fun h => by rw [Bd.returns] at h; cases h)
  refine ⟨_, _, pre0 _ ?_, hrun, hended, _, _, rfl, ?_, ⟨_, rfl⟩, hW, hsame.mono (by decide) (by decide)⟩
  · show Steps _ _ _ (s₁.setTop (mkF m 0 #[vR s_COALESCE, vI p2] [])) _
    refine XS.iloadN X0.here hx rfl (hb hby d1_0) rfl ?_
    show Steps _ _ _ (s₁.setTop (mkF m 1 #[vR s_COALESCE, vI p2] [iI p2])) _
    refine XS.aloadN X0.here hx rfl (hb hby d1_1) rfl rfl ?_
    show Steps _ _ _ (s₁.setTop (mkF m 2 #[vR s_COALESCE, vI p2] [iR s_COALESCE, iI p2])) _
    refine st1 _ ?_
    show Steps _ _ _ (T1.setTop (mkF m 5 #[vR s_COALESCE, vI p2] [iI 1, iI p2])) _
    refine st3 _ ?_
    show Steps _ _ _ (T3.setTop (mkF m 21 #[vR s_COALESCE, vI p2] [iI v2])) _
    exact retN X3 hx (t := .boolean) Bd.returns (by simp) (hb hby d1_21) hr
  · show Q1_6 Z p2 s_ABS s_RANGE s_NVL2 s_ATLEASTNNONNULLS s_CONCAT s_IFNULL s_NULLIF s_COALESCE h0 _ T3.heap _
    rw [e3]
    exact ⟨by subst hv2; first | rfl | (simp only [own_tk_6]; done) | (simp only [own_tk_6]; rfl) | (simp only [own_tk_6, nar] ; first | rfl | (simp; done) | decide), rfl, rfl⟩
def own_tk_7 (p2 : Int32) : Int32 := (nar .boolean (if p2 < (1 : Int32) then (0 : Int32) else (if (2147483647 : Int32) < p2 then (0 : Int32) else (1 : Int32))))
theorem ef_1_7 (m : MethodId) (x0 : Addr) (x1 : Int32) : entryFrame m #[(.ref x0), (.int x1)] 2 = mkF m 0 #[.val (.ref x0), .val (.int x1)] [] := by first | (simp [entryFrame, mkF, argsToLocals, Value.category]; done) | rfl
def Q1_7 (Z : State) (p2 : Int32) (s_ABS : Addr) (s_RANGE : Addr) (s_NVL2 : Addr) (s_ATLEASTNNONNULLS : Addr) (s_CONCAT : Addr) (s_IFNULL : Addr) (s_NULLIF : Addr) (s_COALESCE : Addr) (h0 : Heap) (v : Option Value) (h : Heap) (L : List Loc) : Prop := v = some (.int (own_tk_7 p2)) ∧ L = [] ∧ h = h0
set_option maxRecDepth 65536 in
set_option maxHeartbeats 40000000 in
theorem rm1_7 (l : Launch) (Z : State) (a0 : Array Value) (hw : ∀ d ∈ tables_1, d.before a0 Z = true) (ws : List Jvm.Cond) (p2 : Int32) (s_ABS : Addr) (s_RANGE : Addr) (s_NVL2 : Addr) (s_ATLEASTNNONNULLS : Addr) (s_CONCAT : Addr) (s_IFNULL : Addr) (s_NULLIF : Addr) (s_COALESCE : Addr) (h0 : Heap) (S_ABS : Sta Z h0 "com/example/nullwise/nullwise/Function" "ABS" "Lcom/example/nullwise/nullwise/Function;" (.ref s_ABS)) (E_ABS : Exa Z h0 s_ABS "com/example/nullwise/nullwise/Function") (F_fewestArguments_ABS : Fld Z h0 s_ABS "com/example/nullwise/nullwise/Function" "fewestArguments" "I" (.int (1 : Int32))) (F_mostArguments_ABS : Fld Z h0 s_ABS "com/example/nullwise/nullwise/Function" "mostArguments" "I" (.int (1 : Int32))) (S_RANGE : Sta Z h0 "com/example/nullwise/nullwise/Function" "RANGE" "Lcom/example/nullwise/nullwise/Function;" (.ref s_RANGE)) (E_RANGE : Exa Z h0 s_RANGE "com/example/nullwise/nullwise/Function") (F_fewestArguments_RANGE : Fld Z h0 s_RANGE "com/example/nullwise/nullwise/Function" "fewestArguments" "I" (.int (2 : Int32))) (F_mostArguments_RANGE : Fld Z h0 s_RANGE "com/example/nullwise/nullwise/Function" "mostArguments" "I" (.int (3 : Int32))) (S_NVL2 : Sta Z h0 "com/example/nullwise/nullwise/Function" "NVL2" "Lcom/example/nullwise/nullwise/Function;" (.ref s_NVL2)) (E_NVL2 : Exa Z h0 s_NVL2 "com/example/nullwise/nullwise/Function") (F_fewestArguments_NVL2 : Fld Z h0 s_NVL2 "com/example/nullwise/nullwise/Function" "fewestArguments" "I" (.int (3 : Int32))) (S_ATLEASTNNONNULLS : Sta Z h0 "com/example/nullwise/nullwise/Function" "ATLEASTNNONNULLS" "Lcom/example/nullwise/nullwise/Function;" (.ref s_ATLEASTNNONNULLS)) (E_ATLEASTNNONNULLS : Exa Z h0 s_ATLEASTNNONNULLS "com/example/nullwise/nullwise/Function") (F_fewestArguments_ATLEASTNNONNULLS : Fld Z h0 s_ATLEASTNNONNULLS "com/example/nullwise/nullwise/Function" "fewestArguments" "I" (.int (1 : Int32))) (S_CONCAT : Sta Z h0 "com/example/nullwise/nullwise/Function" "CONCAT" "Lcom/example/nullwise/nullwise/Function;" (.ref s_CONCAT)) (E_CONCAT : Exa Z h0 s_CONCAT "com/example/nullwise/nullwise/Function") (F_fewestArguments_CONCAT : Fld Z h0 s_CONCAT "com/example/nullwise/nullwise/Function" "fewestArguments" "I" (.int (1 : Int32))) (F_mostArguments_CONCAT : Fld Z h0 s_CONCAT "com/example/nullwise/nullwise/Function" "mostArguments" "I" (.int (2147483647 : Int32))) (S_IFNULL : Sta Z h0 "com/example/nullwise/nullwise/Function" "IFNULL" "Lcom/example/nullwise/nullwise/Function;" (.ref s_IFNULL)) (E_IFNULL : Exa Z h0 s_IFNULL "com/example/nullwise/nullwise/Function") (F_fewestArguments_IFNULL : Fld Z h0 s_IFNULL "com/example/nullwise/nullwise/Function" "fewestArguments" "I" (.int (2 : Int32))) (F_mostArguments_IFNULL : Fld Z h0 s_IFNULL "com/example/nullwise/nullwise/Function" "mostArguments" "I" (.int (2 : Int32))) (S_NULLIF : Sta Z h0 "com/example/nullwise/nullwise/Function" "NULLIF" "Lcom/example/nullwise/nullwise/Function;" (.ref s_NULLIF)) (E_NULLIF : Exa Z h0 s_NULLIF "com/example/nullwise/nullwise/Function") (F_fewestArguments_NULLIF : Fld Z h0 s_NULLIF "com/example/nullwise/nullwise/Function" "fewestArguments" "I" (.int (2 : Int32))) (F_mostArguments_NULLIF : Fld Z h0 s_NULLIF "com/example/nullwise/nullwise/Function" "mostArguments" "I" (.int (2 : Int32))) (S_COALESCE : Sta Z h0 "com/example/nullwise/nullwise/Function" "COALESCE" "Lcom/example/nullwise/nullwise/Function;" (.ref s_COALESCE)) (E_COALESCE : Exa Z h0 s_COALESCE "com/example/nullwise/nullwise/Function") (F_fewestArguments_COALESCE : Fld Z h0 s_COALESCE "com/example/nullwise/nullwise/Function" "fewestArguments" "I" (.int (1 : Int32))) (F_mostArguments_COALESCE : Fld Z h0 s_COALESCE "com/example/nullwise/nullwise/Function" "mostArguments" "I" (.int (2147483647 : Int32))) (F_mostArguments_ATLEASTNNONNULLS : Fld Z h0 s_ATLEASTNNONNULLS "com/example/nullwise/nullwise/Function" "mostArguments" "I" (.int (2147483647 : Int32))) (F_mostArguments_NVL2 : Fld Z h0 s_NVL2 "com/example/nullwise/nullwise/Function" "mostArguments" "I" (.int (3 : Int32))) :
    MetFree l (⟨"com/example/nullwise/nullwise/Function", "takes", "(I)Z"⟩ : MethodName) (head1 (Jvm.Cond.code (⟨"com/example/nullwise/nullwise/Function", "takes", "(I)Z"⟩ : MethodName) prog_41_method_6_code 2 (some .boolean) :: ws) ({ frames := 0, cells := 0, slots := 0, locals := 0 } : Room)) (fun a U => a = #[(.ref s_ATLEASTNNONNULLS), (.int p2)] ∧ Z.Warmed39 U.vm ∧ U.heap = h0) (fun _ _ _ _ _ => True) (fun _ U o U' => ∃ v L, o = .returned v ∧ Q1_7 Z p2 s_ABS s_RANGE s_NVL2 s_ATLEASTNNONNULLS s_CONCAT s_IFNULL s_NULLIF s_COALESCE h0 v U'.heap L ∧ FrameEnd U o U' L ({ frames := 0, cells := 0, slots := 0, locals := 0 } : Room).cells ({ frames := 0, cells := 0, slots := 0, locals := 0 } : Room).slots) := by
  refine MetFree.of_bodySF (plainFor_of_name pn_0) hisR ?_
  intro p e s m args below meth c s₁ Bd hml0 hP hK
  obtain ⟨rfl, hZ, hh⟩ := hP
  have hx := Bd.exec
  have hby := Bd.bytes
  have hml : c.maxLocals = 2 := hml0
  have hown : s.vm.findClass "com/example/nullwise/nullwise/Function" = some m.cls := findClass_of_methodNamed Bd.named
  have hnm := (name_of_methodNamed Bd.named Bd.method).1
  have X0 : Stand p l e ({ frames := 0, cells := 0, slots := 0, locals := 0 } : Room) s m #[(.ref s_ATLEASTNNONNULLS), (.int p2)] below meth c s₁ [] 0 0 := Stand.of_body Bd
  have e0 : s₁.heap = h0 := by rw [← hh, Bd.state]; rfl
  have pre0 : ∀ t, Steps p.tables e below (s₁.setTop (mkF m 0 #[.val (.ref s_ATLEASTNNONNULLS), .val (.int p2)] [])) t → Steps p.tables e below (s₁.setTop (entryFrame m #[(.ref s_ATLEASTNNONNULLS), (.int p2)] 2)) t := fun t k => castTop (ef_1_7 m s_ATLEASTNNONNULLS p2) k
  obtain ⟨T1, X1, e1, st1⟩ := getF X0 hx hZ hown (host := "") (Or.inl (hw _ (List.mem_of_getElem? (i := 9) rfl))) Via.refl e0 F_fewestArguments_ATLEASTNNONNULLS (g := (mkF m 2 #[vR s_ATLEASTNNONNULLS, vI p2] [iR s_ATLEASTNNONNULLS, iI p2])) rfl rfl (hb hby d1_2)
  obtain ⟨v2, hv2⟩ : ∃ z : Int32, z = (if p2 < (1 : Int32) then (0 : Int32) else (if (2147483647 : Int32) < p2 then (0 : Int32) else (1 : Int32))) := ⟨_, rfl⟩
  obtain ⟨T3, X3, e3, st3⟩ : own_Mid X1 h0 (mkF m 5 #[vR s_ATLEASTNNONNULLS, vI p2] [iI 1, iI p2]) (mkF m 21 #[vR s_ATLEASTNNONNULLS, vI p2] [iI v2]) := by
    by_cases hc4 : p2 < (1 : Int32)
    · refine ⟨T1, X1, e1, fun t kt => ?_⟩
      subst hv2
      simp only [if_pos hc4] at kt
      show Steps _ _ _ (T1.setTop (mkF m 5 #[vR s_ATLEASTNNONNULLS, vI p2] [iI 1, iI p2])) _
      refine XS.icmpYes X1.here hx rfl (pc0 := 5) (pc' := 20) rfl (hb hby d1_5) rfl (tlt hc4).1 (by decide) (by decide) ?_
      show Steps _ _ _ (T1.setTop (mkF m 20 #[vR s_ATLEASTNNONNULLS, vI p2] [])) _
      refine XS.iconst X1.here hx rfl (hb hby d1_20) ?_
      exact kt
    · obtain ⟨T5, X5, e5, st5⟩ := getF X1 hx hZ hown (host := "") (Or.inl (hw _ (List.mem_of_getElem? (i := 11) rfl))) Via.refl e1 F_mostArguments_ATLEASTNNONNULLS (g := (mkF m 10 #[vR s_ATLEASTNNONNULLS, vI p2] [iR s_ATLEASTNNONNULLS, iI p2])) rfl rfl (hb hby d1_10)
      have pre7 : ∀ t, Steps p.tables e below (T5.setTop (mkF m 13 #[vR s_ATLEASTNNONNULLS, vI p2] [iI 2147483647, iI p2])) t → Steps p.tables e below (T1.setTop (mkF m 5 #[vR s_ATLEASTNNONNULLS, vI p2] [iI 1, iI p2])) t := by
        intro t kt
        show Steps _ _ _ (T1.setTop (mkF m 5 #[vR s_ATLEASTNNONNULLS, vI p2] [iI 1, iI p2])) _
        refine XS.icmpNo X1.here hx rfl (hb hby d1_5) rfl (flt hc4).1 ?_
        show Steps _ _ _ (T1.setTop (mkF m 8 #[vR s_ATLEASTNNONNULLS, vI p2] [])) _
        refine XS.iloadN X1.here hx rfl (hb hby d1_8) rfl ?_
        show Steps _ _ _ (T1.setTop (mkF m 9 #[vR s_ATLEASTNNONNULLS, vI p2] [iI p2])) _
        refine XS.aloadN X1.here hx rfl (hb hby d1_9) rfl rfl ?_
        show Steps _ _ _ (T1.setTop (mkF m 10 #[vR s_ATLEASTNNONNULLS, vI p2] [iR s_ATLEASTNNONNULLS, iI p2])) _
        refine st5 _ ?_
        exact kt
      by_cases hc6 : (2147483647 : Int32) < p2
      · refine ⟨T5, X5, e5, fun t kt => ?_⟩
        subst hv2
        simp only [if_neg hc4, if_pos hc6] at kt
        refine pre7 t ?_
        show Steps _ _ _ (T5.setTop (mkF m 13 #[vR s_ATLEASTNNONNULLS, vI p2] [iI 2147483647, iI p2])) _
        refine XS.icmpYes X5.here hx rfl (pc0 := 13) (pc' := 20) rfl (hb hby d1_13) rfl (tlt hc6).2.2.1 (by decide) (by decide) ?_
        show Steps _ _ _ (T5.setTop (mkF m 20 #[vR s_ATLEASTNNONNULLS, vI p2] [])) _
        refine XS.iconst X5.here hx rfl (hb hby d1_20) ?_
        exact kt
      · refine ⟨T5, X5, e5, fun t kt => ?_⟩
        subst hv2
        simp only [if_neg hc4, if_neg hc6] at kt
        refine pre7 t ?_
        show Steps _ _ _ (T5.setTop (mkF m 13 #[vR s_ATLEASTNNONNULLS, vI p2] [iI 2147483647, iI p2])) _
        refine XS.icmpNo X5.here hx rfl (hb hby d1_13) rfl (flt hc6).2.2.1 ?_
        show Steps _ _ _ (T5.setTop (mkF m 16 #[vR s_ATLEASTNNONNULLS, vI p2] [])) _
        refine XS.iconst X5.here hx rfl (hb hby d1_16) ?_
        show Steps _ _ _ (T5.setTop (mkF m 17 #[vR s_ATLEASTNNONNULLS, vI p2] [iI 1])) _
        refine XS.goto X5.here hx rfl (pc0 := 17) (pc' := 21) rfl (hb hby d1_17) (by decide) (by decide) ?_
        exact kt
  obtain ⟨fs, hr, hrun, hended, hW, hsame⟩ := X3.leave (v := some (.int (nar .boolean v2))) (fun h => by rw [Bd.returns] at h; cases h)
  refine ⟨_, _, pre0 _ ?_, hrun, hended, _, _, rfl, ?_, ⟨_, rfl⟩, hW, hsame.mono (by decide) (by decide)⟩
  · show Steps _ _ _ (s₁.setTop (mkF m 0 #[vR s_ATLEASTNNONNULLS, vI p2] [])) _
    refine XS.iloadN X0.here hx rfl (hb hby d1_0) rfl ?_
    show Steps _ _ _ (s₁.setTop (mkF m 1 #[vR s_ATLEASTNNONNULLS, vI p2] [iI p2])) _
    refine XS.aloadN X0.here hx rfl (hb hby d1_1) rfl rfl ?_
    show Steps _ _ _ (s₁.setTop (mkF m 2 #[vR s_ATLEASTNNONNULLS, vI p2] [iR s_ATLEASTNNONNULLS, iI p2])) _
    refine st1 _ ?_
    show Steps _ _ _ (T1.setTop (mkF m 5 #[vR s_ATLEASTNNONNULLS, vI p2] [iI 1, iI p2])) _
    refine st3 _ ?_
    show Steps _ _ _ (T3.setTop (mkF m 21 #[vR s_ATLEASTNNONNULLS, vI p2] [iI v2])) _
    exact retN X3 hx (t := .boolean) Bd.returns (by simp) (hb hby d1_21) hr
  · show Q1_7 Z p2 s_ABS s_RANGE s_NVL2 s_ATLEASTNNONNULLS s_CONCAT s_IFNULL s_NULLIF s_COALESCE h0 _ T3.heap _
    rw [e3]
    exact ⟨by subst hv2; first | rfl | (simp only [own_tk_7]; done) | (simp only [own_tk_7]; rfl) | (simp only [own_tk_7, nar] ; first | rfl | (simp; done) | decide), rfl, rfl⟩
theorem own_eq_0 (v : Int32) : own_tk_0 v = (if v = (1 : Int32) then (1 : Int32) else (0 : Int32)) := by
  have hr := rng32 v
  unfold own_tk_0
  simp only [Int32.lt_iff_toInt_lt, ← Int32.toInt_inj]
  repeat' split
  all_goals first | rfl | (exfalso; simp at *; omega)
theorem own_eq_1 (v : Int32) : own_tk_1 v = (if v = (2 : Int32) then (1 : Int32) else (if v = (3 : Int32) then (1 : Int32) else (0 : Int32))) := by
  have hr := rng32 v
  unfold own_tk_1
  simp only [Int32.lt_iff_toInt_lt, ← Int32.toInt_inj]
  repeat' split
  all_goals first | rfl | (exfalso; simp at *; omega)
theorem own_eq_2 (v : Int32) : own_tk_2 v = (if (0 : Int32) < v then (1 : Int32) else (0 : Int32)) := by
  have hr := rng32 v
  unfold own_tk_2
  simp only [Int32.lt_iff_toInt_lt, ← Int32.toInt_inj]
  repeat' split
  all_goals first | rfl | (exfalso; simp at *; omega)
theorem own_eq_3 (v : Int32) : own_tk_3 v = (if v = (2 : Int32) then (1 : Int32) else (0 : Int32)) := by
  have hr := rng32 v
  unfold own_tk_3
  simp only [Int32.lt_iff_toInt_lt, ← Int32.toInt_inj]
  repeat' split
  all_goals first | rfl | (exfalso; simp at *; omega)
theorem own_eq_4 (v : Int32) : own_tk_4 v = (if v = (3 : Int32) then (1 : Int32) else (0 : Int32)) := by
  have hr := rng32 v
  unfold own_tk_4
  simp only [Int32.lt_iff_toInt_lt, ← Int32.toInt_inj]
  repeat' split
  all_goals first | rfl | (exfalso; simp at *; omega)
theorem own_eq_5 (v : Int32) : own_tk_5 v = (if v = (2 : Int32) then (1 : Int32) else (0 : Int32)) := by
  have hr := rng32 v
  unfold own_tk_5
  simp only [Int32.lt_iff_toInt_lt, ← Int32.toInt_inj]
  repeat' split
  all_goals first | rfl | (exfalso; simp at *; omega)
theorem own_eq_6 (v : Int32) : own_tk_6 v = (if (0 : Int32) < v then (1 : Int32) else (0 : Int32)) := by
  have hr := rng32 v
  unfold own_tk_6
  simp only [Int32.lt_iff_toInt_lt, ← Int32.toInt_inj]
  repeat' split
  all_goals first | rfl | (exfalso; simp at *; omega)
theorem own_eq_7 (v : Int32) : own_tk_7 v = (if (0 : Int32) < v then (1 : Int32) else (0 : Int32)) := by
  have hr := rng32 v
  unfold own_tk_7
  simp only [Int32.lt_iff_toInt_lt, ← Int32.toInt_inj]
  repeat' split
  all_goals first | rfl | (exfalso; simp at *; omega)

theorem pn_1 : plainName "com/example/nullwise/nullwise/FunctionTakesPinLaw" = true := by first | (simp [plainName, overriddenIn]; done) | decide +kernel
theorem ef_0 (m : MethodId) (x0 : Int32) (x1 : Int32) (x2 : Int32) : entryFrame m #[(.int x0), (.int x1), (.int x2)] maxLocals = mkF m 0 #[.val (.int x0), .val (.int x1), .val (.int x2), .unset, .unset, .unset, .unset, .unset] [] := by first | (simp [entryFrame, mkF, argsToLocals, Value.category, maxLocals]; done) | rfl
def Q0 (Z : State) (p1 : Int32) (p2 : Int32) (p3 : Int32) (s_ABS : Addr) (s_RANGE : Addr) (s_NVL2 : Addr) (s_ATLEASTNNONNULLS : Addr) (s_CONCAT : Addr) (s_IFNULL : Addr) (s_NULLIF : Addr) (s_COALESCE : Addr) (h0 : Heap) (v : Option Value) (h : Heap) (L : List Loc) : Prop := v = some (.int (1 : Int32)) ∧ L = [] ∧ h = h0
set_option maxRecDepth 65536 in
set_option maxHeartbeats 40000000 in
theorem rm0 (l : Launch) (Z : State) (a0 : Array Value) (hw : ∀ d ∈ tables_1, d.before a0 Z = true) (ws : List Jvm.Cond) (p1 : Int32) (p2 : Int32) (p3 : Int32) (s_ABS : Addr) (s_RANGE : Addr) (s_NVL2 : Addr) (s_ATLEASTNNONNULLS : Addr) (s_CONCAT : Addr) (s_IFNULL : Addr) (s_NULLIF : Addr) (s_COALESCE : Addr) (h0 : Heap) (S_ABS : Sta Z h0 "com/example/nullwise/nullwise/Function" "ABS" "Lcom/example/nullwise/nullwise/Function;" (.ref s_ABS)) (E_ABS : Exa Z h0 s_ABS "com/example/nullwise/nullwise/Function") (F_fewestArguments_ABS : Fld Z h0 s_ABS "com/example/nullwise/nullwise/Function" "fewestArguments" "I" (.int (1 : Int32))) (F_mostArguments_ABS : Fld Z h0 s_ABS "com/example/nullwise/nullwise/Function" "mostArguments" "I" (.int (1 : Int32))) (S_RANGE : Sta Z h0 "com/example/nullwise/nullwise/Function" "RANGE" "Lcom/example/nullwise/nullwise/Function;" (.ref s_RANGE)) (E_RANGE : Exa Z h0 s_RANGE "com/example/nullwise/nullwise/Function") (F_fewestArguments_RANGE : Fld Z h0 s_RANGE "com/example/nullwise/nullwise/Function" "fewestArguments" "I" (.int (2 : Int32))) (F_mostArguments_RANGE : Fld Z h0 s_RANGE "com/example/nullwise/nullwise/Function" "mostArguments" "I" (.int (3 : Int32))) (S_NVL2 : Sta Z h0 "com/example/nullwise/nullwise/Function" "NVL2" "Lcom/example/nullwise/nullwise/Function;" (.ref s_NVL2)) (E_NVL2 : Exa Z h0 s_NVL2 "com/example/nullwise/nullwise/Function") (F_fewestArguments_NVL2 : Fld Z h0 s_NVL2 "com/example/nullwise/nullwise/Function" "fewestArguments" "I" (.int (3 : Int32))) (S_ATLEASTNNONNULLS : Sta Z h0 "com/example/nullwise/nullwise/Function" "ATLEASTNNONNULLS" "Lcom/example/nullwise/nullwise/Function;" (.ref s_ATLEASTNNONNULLS)) (E_ATLEASTNNONNULLS : Exa Z h0 s_ATLEASTNNONNULLS "com/example/nullwise/nullwise/Function") (F_fewestArguments_ATLEASTNNONNULLS : Fld Z h0 s_ATLEASTNNONNULLS "com/example/nullwise/nullwise/Function" "fewestArguments" "I" (.int (1 : Int32))) (S_CONCAT : Sta Z h0 "com/example/nullwise/nullwise/Function" "CONCAT" "Lcom/example/nullwise/nullwise/Function;" (.ref s_CONCAT)) (E_CONCAT : Exa Z h0 s_CONCAT "com/example/nullwise/nullwise/Function") (F_fewestArguments_CONCAT : Fld Z h0 s_CONCAT "com/example/nullwise/nullwise/Function" "fewestArguments" "I" (.int (1 : Int32))) (F_mostArguments_CONCAT : Fld Z h0 s_CONCAT "com/example/nullwise/nullwise/Function" "mostArguments" "I" (.int (2147483647 : Int32))) (S_IFNULL : Sta Z h0 "com/example/nullwise/nullwise/Function" "IFNULL" "Lcom/example/nullwise/nullwise/Function;" (.ref s_IFNULL)) (E_IFNULL : Exa Z h0 s_IFNULL "com/example/nullwise/nullwise/Function") (F_fewestArguments_IFNULL : Fld Z h0 s_IFNULL "com/example/nullwise/nullwise/Function" "fewestArguments" "I" (.int (2 : Int32))) (F_mostArguments_IFNULL : Fld Z h0 s_IFNULL "com/example/nullwise/nullwise/Function" "mostArguments" "I" (.int (2 : Int32))) (S_NULLIF : Sta Z h0 "com/example/nullwise/nullwise/Function" "NULLIF" "Lcom/example/nullwise/nullwise/Function;" (.ref s_NULLIF)) (E_NULLIF : Exa Z h0 s_NULLIF "com/example/nullwise/nullwise/Function") (F_fewestArguments_NULLIF : Fld Z h0 s_NULLIF "com/example/nullwise/nullwise/Function" "fewestArguments" "I" (.int (2 : Int32))) (F_mostArguments_NULLIF : Fld Z h0 s_NULLIF "com/example/nullwise/nullwise/Function" "mostArguments" "I" (.int (2 : Int32))) (S_COALESCE : Sta Z h0 "com/example/nullwise/nullwise/Function" "COALESCE" "Lcom/example/nullwise/nullwise/Function;" (.ref s_COALESCE)) (E_COALESCE : Exa Z h0 s_COALESCE "com/example/nullwise/nullwise/Function") (F_fewestArguments_COALESCE : Fld Z h0 s_COALESCE "com/example/nullwise/nullwise/Function" "fewestArguments" "I" (.int (1 : Int32))) (F_mostArguments_COALESCE : Fld Z h0 s_COALESCE "com/example/nullwise/nullwise/Function" "mostArguments" "I" (.int (2147483647 : Int32))) (F_mostArguments_ATLEASTNNONNULLS : Fld Z h0 s_ATLEASTNNONNULLS "com/example/nullwise/nullwise/Function" "mostArguments" "I" (.int (2147483647 : Int32))) (F_mostArguments_NVL2 : Fld Z h0 s_NVL2 "com/example/nullwise/nullwise/Function" "mostArguments" "I" (.int (3 : Int32))) :
    MetFree l x (head1 (Jvm.Cond.code x code maxLocals ret :: ws) room_1) (fun a U => a = #[(.int p1), (.int p2), (.int p3)] ∧ Z.Warmed39 U.vm ∧ U.heap = h0) (fun _ _ _ _ _ => True) (fun _ U o U' => ∃ v L, o = .returned v ∧ Q0 Z p1 p2 p3 s_ABS s_RANGE s_NVL2 s_ATLEASTNNONNULLS s_CONCAT s_IFNULL s_NULLIF s_COALESCE h0 v U'.heap L ∧ FrameEnd U o U' L room_1.cells room_1.slots) := by
  refine MetFree.of_bodySF (plainFor_of_name pn_1) hisR ?_
  intro p e s m args below meth c s₁ Bd hml0 hP hK
  obtain ⟨rfl, hZ, hh⟩ := hP
  have hx := Bd.exec
  have hby := Bd.bytes
  have hml : c.maxLocals = 8 := hml0
  have hown : s.vm.findClass "com/example/nullwise/nullwise/FunctionTakesPinLaw" = some m.cls := findClass_of_methodNamed Bd.named
  have hnm := (name_of_methodNamed Bd.named Bd.method).1
  have X0 : Stand p l e room_1 s m #[(.int p1), (.int p2), (.int p3)] below meth c s₁ [] 0 0 := Stand.of_body Bd
  have e0 : s₁.heap = h0 := by rw [← hh, Bd.state]; rfl
  have pre0 : ∀ t, Steps p.tables e below (s₁.setTop (mkF m 0 #[.val (.int p1), .val (.int p2), .val (.int p3), .unset, .unset, .unset, .unset, .unset] [])) t → Steps p.tables e below (s₁.setTop (entryFrame m #[(.int p1), (.int p2), (.int p3)] maxLocals)) t := fun t k => castTop (ef_0 m p1 p2 p3) k
  obtain ⟨kv, hkv⟩ : ∃ z : Int32, z = ((p1 &&& (2147483647 : Int32)) % (8 : Int32)) := ⟨_, rfl⟩
  have qkv : kv = 0 ∨ kv = 1 ∨ kv = 2 ∨ kv = 3 ∨ kv = 4 ∨ kv = 5 ∨ kv = 6 ∨ kv = 7 := by rw [hkv]; exact own_small8 _ (own_rem p1 8 8 rfl (by decide)).1 (own_rem p1 8 8 rfl (by decide)).2
  obtain ⟨v2, hv2⟩ : ∃ z : Int32, z = (if ((p3 &&& (2147483647 : Int32)) % (3 : Int32)) = (0 : Int32) then p2 else (if ((p3 &&& (2147483647 : Int32)) % (3 : Int32)) = (1 : Int32) then ((p2 &&& (7 : Int32)) - (2 : Int32)) else ((2147483647 : Int32) - (p2 &&& (3 : Int32))))) := ⟨_, rfl⟩
  obtain ⟨T3, X3, e3, st3⟩ : own_Mid X0 h0 (mkF m 18 #[vI p1, vI p2, vI p3, vI kv, vI ((p3 &&& (2147483647 : Int32)) % (3 : Int32)), .unset, .unset, .unset] [iI ((p3 &&& (2147483647 : Int32)) % (3 : Int32))]) (mkF m 52 #[vI p1, vI p2, vI p3, vI kv, vI ((p3 &&& (2147483647 : Int32)) % (3 : Int32)), vI v2, .unset, .unset] []) := by
    by_cases hc4 : ((p3 &&& (2147483647 : Int32)) % (3 : Int32)) = (0 : Int32)
    · refine ⟨s₁, X0, e0, fun t kt => ?_⟩
      subst hv2
      simp only [if_pos hc4] at kt
      show Steps _ _ _ (s₁.setTop (mkF m 18 #[vI p1, vI p2, vI p3, vI kv, vI ((p3 &&& (2147483647 : Int32)) % (3 : Int32)), .unset, .unset, .unset] [iI ((p3 &&& (2147483647 : Int32)) % (3 : Int32))])) _
      refine XS.ifNo X0.here hx rfl (hb hby at_18) rfl ((if0 _ _).trans (teq hc4).2) ?_
      show Steps _ _ _ (s₁.setTop (mkF m 21 #[vI p1, vI p2, vI p3, vI kv, vI ((p3 &&& (2147483647 : Int32)) % (3 : Int32)), .unset, .unset, .unset] [])) _
      refine XS.iloadN X0.here hx rfl (hb hby at_21) rfl ?_
      show Steps _ _ _ (s₁.setTop (mkF m 22 #[vI p1, vI p2, vI p3, vI kv, vI ((p3 &&& (2147483647 : Int32)) % (3 : Int32)), .unset, .unset, .unset] [iI p2])) _
      refine XS.istore X0.here hx rfl (hb hby at_22) rfl (l' := #[vI p1, vI p2, vI p3, vI kv, vI ((p3 &&& (2147483647 : Int32)) % (3 : Int32)), vI p2, .unset, .unset]) rfl ?_
      show Steps _ _ _ (s₁.setTop (mkF m 24 #[vI p1, vI p2, vI p3, vI kv, vI ((p3 &&& (2147483647 : Int32)) % (3 : Int32)), vI p2, .unset, .unset] [])) _
      refine XS.goto X0.here hx rfl (pc0 := 24) (pc' := 52) rfl (hb hby at_24) (by decide) (by decide) ?_
      exact kt
    · have pre6 : ∀ t, Steps p.tables e below (s₁.setTop (mkF m 30 #[vI p1, vI p2, vI p3, vI kv, vI ((p3 &&& (2147483647 : Int32)) % (3 : Int32)), .unset, .unset, .unset] [iI 1, iI ((p3 &&& (2147483647 : Int32)) % (3 : Int32))])) t → Steps p.tables e below (s₁.setTop (mkF m 18 #[vI p1, vI p2, vI p3, vI kv, vI ((p3 &&& (2147483647 : Int32)) % (3 : Int32)), .unset, .unset, .unset] [iI ((p3 &&& (2147483647 : Int32)) % (3 : Int32))])) t := by
        intro t kt
        show Steps _ _ _ (s₁.setTop (mkF m 18 #[vI p1, vI p2, vI p3, vI kv, vI ((p3 &&& (2147483647 : Int32)) % (3 : Int32)), .unset, .unset, .unset] [iI ((p3 &&& (2147483647 : Int32)) % (3 : Int32))])) _
        refine XS.ifYes X0.here hx rfl (pc0 := 18) (pc' := 27) rfl (hb hby at_18) rfl ((if0 _ _).trans (feq hc4).2) (by decide) (by decide) ?_
        show Steps _ _ _ (s₁.setTop (mkF m 27 #[vI p1, vI p2, vI p3, vI kv, vI ((p3 &&& (2147483647 : Int32)) % (3 : Int32)), .unset, .unset, .unset] [])) _
        refine XS.iload X0.here hx rfl (hb hby at_27) rfl ?_
        show Steps _ _ _ (s₁.setTop (mkF m 29 #[vI p1, vI p2, vI p3, vI kv, vI ((p3 &&& (2147483647 : Int32)) % (3 : Int32)), .unset, .unset, .unset] [iI ((p3 &&& (2147483647 : Int32)) % (3 : Int32))])) _
        refine XS.iconst X0.here hx rfl (hb hby at_29) ?_
        exact kt
      by_cases hc5 : ((p3 &&& (2147483647 : Int32)) % (3 : Int32)) = (1 : Int32)
      · refine ⟨s₁, X0, e0, fun t kt => ?_⟩
        subst hv2
        simp only [if_neg hc4, if_pos hc5] at kt
        refine pre6 t ?_
        show Steps _ _ _ (s₁.setTop (mkF m 30 #[vI p1, vI p2, vI p3, vI kv, vI ((p3 &&& (2147483647 : Int32)) % (3 : Int32)), .unset, .unset, .unset] [iI 1, iI ((p3 &&& (2147483647 : Int32)) % (3 : Int32))])) _
        refine XS.icmpNo X0.here hx rfl (hb hby at_30) rfl (teq hc5).2 ?_
        show Steps _ _ _ (s₁.setTop (mkF m 33 #[vI p1, vI p2, vI p3, vI kv, vI ((p3 &&& (2147483647 : Int32)) % (3 : Int32)), .unset, .unset, .unset] [])) _
        refine XS.iloadN X0.here hx rfl (hb hby at_33) rfl ?_
        show Steps _ _ _ (s₁.setTop (mkF m 34 #[vI p1, vI p2, vI p3, vI kv, vI ((p3 &&& (2147483647 : Int32)) % (3 : Int32)), .unset, .unset, .unset] [iI p2])) _
        refine XS.bipush X0.here hx rfl (hb hby at_34) ?_
        show Steps _ _ _ (s₁.setTop (mkF m 36 #[vI p1, vI p2, vI p3, vI kv, vI ((p3 &&& (2147483647 : Int32)) % (3 : Int32)), .unset, .unset, .unset] [iI 7, iI p2])) _
        refine XS.iand X0.here hx rfl (hb hby at_36) rfl ?_
        show Steps _ _ _ (s₁.setTop (mkF m 37 #[vI p1, vI p2, vI p3, vI kv, vI ((p3 &&& (2147483647 : Int32)) % (3 : Int32)), .unset, .unset, .unset] [iI (p2 &&& (7 : Int32))])) _
        refine XS.iconst X0.here hx rfl (hb hby at_37) ?_
        show Steps _ _ _ (s₁.setTop (mkF m 38 #[vI p1, vI p2, vI p3, vI kv, vI ((p3 &&& (2147483647 : Int32)) % (3 : Int32)), .unset, .unset, .unset] [iI 2, iI (p2 &&& (7 : Int32))])) _
        refine XS.isub X0.here hx rfl (hb hby at_38) rfl ?_
        show Steps _ _ _ (s₁.setTop (mkF m 39 #[vI p1, vI p2, vI p3, vI kv, vI ((p3 &&& (2147483647 : Int32)) % (3 : Int32)), .unset, .unset, .unset] [iI ((p2 &&& (7 : Int32)) - (2 : Int32))])) _
        refine XS.istore X0.here hx rfl (hb hby at_39) rfl (l' := #[vI p1, vI p2, vI p3, vI kv, vI ((p3 &&& (2147483647 : Int32)) % (3 : Int32)), vI ((p2 &&& (7 : Int32)) - (2 : Int32)), .unset, .unset]) rfl ?_
        show Steps _ _ _ (s₁.setTop (mkF m 41 #[vI p1, vI p2, vI p3, vI kv, vI ((p3 &&& (2147483647 : Int32)) % (3 : Int32)), vI ((p2 &&& (7 : Int32)) - (2 : Int32)), .unset, .unset] [])) _
        refine XS.goto X0.here hx rfl (pc0 := 41) (pc' := 52) rfl (hb hby at_41) (by decide) (by decide) ?_
        exact kt
      · refine ⟨s₁, X0, e0, fun t kt => ?_⟩
        subst hv2
        simp only [if_neg hc4, if_neg hc5] at kt
        refine pre6 t ?_
        show Steps _ _ _ (s₁.setTop (mkF m 30 #[vI p1, vI p2, vI p3, vI kv, vI ((p3 &&& (2147483647 : Int32)) % (3 : Int32)), .unset, .unset, .unset] [iI 1, iI ((p3 &&& (2147483647 : Int32)) % (3 : Int32))])) _
        refine XS.icmpYes X0.here hx rfl (pc0 := 30) (pc' := 44) rfl (hb hby at_30) rfl (feq hc5).2 (by decide) (by decide) ?_
        show Steps _ _ _ (s₁.setTop (mkF m 44 #[vI p1, vI p2, vI p3, vI kv, vI ((p3 &&& (2147483647 : Int32)) % (3 : Int32)), .unset, .unset, .unset] [])) _
        refine X0.ldcInt hx hown (mvT hZ (hw _ (List.mem_of_getElem? (i := 0) rfl))) (g := (mkF m 44 #[vI p1, vI p2, vI p3, vI kv, vI ((p3 &&& (2147483647 : Int32)) % (3 : Int32)), .unset, .unset, .unset] [])) rfl (hb hby at_44) _ ?_
        show Steps _ _ _ (s₁.setTop (mkF m 46 #[vI p1, vI p2, vI p3, vI kv, vI ((p3 &&& (2147483647 : Int32)) % (3 : Int32)), .unset, .unset, .unset] [iI 2147483647])) _
        refine XS.iloadN X0.here hx rfl (hb hby at_46) rfl ?_
        show Steps _ _ _ (s₁.setTop (mkF m 47 #[vI p1, vI p2, vI p3, vI kv, vI ((p3 &&& (2147483647 : Int32)) % (3 : Int32)), .unset, .unset, .unset] [iI p2, iI 2147483647])) _
        refine XS.iconst X0.here hx rfl (hb hby at_47) ?_
        show Steps _ _ _ (s₁.setTop (mkF m 48 #[vI p1, vI p2, vI p3, vI kv, vI ((p3 &&& (2147483647 : Int32)) % (3 : Int32)), .unset, .unset, .unset] [iI 3, iI p2, iI 2147483647])) _
        refine XS.iand X0.here hx rfl (hb hby at_48) rfl ?_
        show Steps _ _ _ (s₁.setTop (mkF m 49 #[vI p1, vI p2, vI p3, vI kv, vI ((p3 &&& (2147483647 : Int32)) % (3 : Int32)), .unset, .unset, .unset] [iI (p2 &&& (3 : Int32)), iI 2147483647])) _
        refine XS.isub X0.here hx rfl (hb hby at_49) rfl ?_
        show Steps _ _ _ (s₁.setTop (mkF m 50 #[vI p1, vI p2, vI p3, vI kv, vI ((p3 &&& (2147483647 : Int32)) % (3 : Int32)), .unset, .unset, .unset] [iI ((2147483647 : Int32) - (p2 &&& (3 : Int32)))])) _
        refine XS.istore X0.here hx rfl (hb hby at_50) rfl (l' := #[vI p1, vI p2, vI p3, vI kv, vI ((p3 &&& (2147483647 : Int32)) % (3 : Int32)), vI ((2147483647 : Int32) - (p2 &&& (3 : Int32))), .unset, .unset]) rfl ?_
        exact kt
  have pre7 : ∀ t, Steps p.tables e below (T3.setTop (mkF m 52 #[vI p1, vI p2, vI p3, vI kv, vI ((p3 &&& (2147483647 : Int32)) % (3 : Int32)), vI v2, .unset, .unset] [])) t → Steps p.tables e below (s₁.setTop (entryFrame m #[(.int p1), (.int p2), (.int p3)] maxLocals)) t := by
    intro t kt
    refine pre0 t ?_
    show Steps _ _ _ (s₁.setTop (mkF m 0 #[vI p1, vI p2, vI p3, .unset, .unset, .unset, .unset, .unset] [])) _
    refine XS.iloadN X0.here hx rfl (hb hby at_0) rfl ?_
    show Steps _ _ _ (s₁.setTop (mkF m 1 #[vI p1, vI p2, vI p3, .unset, .unset, .unset, .unset, .unset] [iI p1])) _
    refine X0.ldcInt hx hown (mvT hZ (hw _ (List.mem_of_getElem? (i := 0) rfl))) (g := (mkF m 1 #[vI p1, vI p2, vI p3, .unset, .unset, .unset, .unset, .unset] [iI p1])) rfl (hb hby at_1) _ ?_
    show Steps _ _ _ (s₁.setTop (mkF m 3 #[vI p1, vI p2, vI p3, .unset, .unset, .unset, .unset, .unset] [iI 2147483647, iI p1])) _
    refine XS.iand X0.here hx rfl (hb hby at_3) rfl ?_
    show Steps _ _ _ (s₁.setTop (mkF m 4 #[vI p1, vI p2, vI p3, .unset, .unset, .unset, .unset, .unset] [iI (p1 &&& (2147483647 : Int32))])) _
    refine XS.bipush X0.here hx rfl (hb hby at_4) ?_
    show Steps _ _ _ (s₁.setTop (mkF m 6 #[vI p1, vI p2, vI p3, .unset, .unset, .unset, .unset, .unset] [iI 8, iI (p1 &&& (2147483647 : Int32))])) _
    refine iremM X0 hx rfl (hb hby at_6) rfl (by decide) ?_
    show Steps _ _ _ (s₁.setTop (mkF m 7 #[vI p1, vI p2, vI p3, .unset, .unset, .unset, .unset, .unset] [iI ((p1 &&& (2147483647 : Int32)) % (8 : Int32))])) _
    refine XS.istoreN X0.here hx rfl (hb hby at_7) rfl (l' := #[vI p1, vI p2, vI p3, vI ((p1 &&& (2147483647 : Int32)) % (8 : Int32)), .unset, .unset, .unset, .unset]) rfl ?_
    rw [← hkv]
    show Steps _ _ _ (s₁.setTop (mkF m 8 #[vI p1, vI p2, vI p3, vI kv, .unset, .unset, .unset, .unset] [])) _
    refine XS.iloadN X0.here hx rfl (hb hby at_8) rfl ?_
    show Steps _ _ _ (s₁.setTop (mkF m 9 #[vI p1, vI p2, vI p3, vI kv, .unset, .unset, .unset, .unset] [iI p3])) _
    refine X0.ldcInt hx hown (mvT hZ (hw _ (List.mem_of_getElem? (i := 0) rfl))) (g := (mkF m 9 #[vI p1, vI p2, vI p3, vI kv, .unset, .unset, .unset, .unset] [iI p3])) rfl (hb hby at_9) _ ?_
    show Steps _ _ _ (s₁.setTop (mkF m 11 #[vI p1, vI p2, vI p3, vI kv, .unset, .unset, .unset, .unset] [iI 2147483647, iI p3])) _
    refine XS.iand X0.here hx rfl (hb hby at_11) rfl ?_
    show Steps _ _ _ (s₁.setTop (mkF m 12 #[vI p1, vI p2, vI p3, vI kv, .unset, .unset, .unset, .unset] [iI (p3 &&& (2147483647 : Int32))])) _
    refine XS.iconst X0.here hx rfl (hb hby at_12) ?_
    show Steps _ _ _ (s₁.setTop (mkF m 13 #[vI p1, vI p2, vI p3, vI kv, .unset, .unset, .unset, .unset] [iI 3, iI (p3 &&& (2147483647 : Int32))])) _
    refine iremM X0 hx rfl (hb hby at_13) rfl (by decide) ?_
    show Steps _ _ _ (s₁.setTop (mkF m 14 #[vI p1, vI p2, vI p3, vI kv, .unset, .unset, .unset, .unset] [iI ((p3 &&& (2147483647 : Int32)) % (3 : Int32))])) _
    refine XS.istore X0.here hx rfl (hb hby at_14) rfl (l' := #[vI p1, vI p2, vI p3, vI kv, vI ((p3 &&& (2147483647 : Int32)) % (3 : Int32)), .unset, .unset, .unset]) rfl ?_
    show Steps _ _ _ (s₁.setTop (mkF m 16 #[vI p1, vI p2, vI p3, vI kv, vI ((p3 &&& (2147483647 : Int32)) % (3 : Int32)), .unset, .unset, .unset] [])) _
    refine XS.iload X0.here hx rfl (hb hby at_16) rfl ?_
    show Steps _ _ _ (s₁.setTop (mkF m 18 #[vI p1, vI p2, vI p3, vI kv, vI ((p3 &&& (2147483647 : Int32)) % (3 : Int32)), .unset, .unset, .unset] [iI ((p3 &&& (2147483647 : Int32)) % (3 : Int32))])) _
    refine st3 _ ?_
    exact kt
  rcases qkv with rfl | rfl | rfl | rfl | rfl | rfl | rfl | rfl
  · obtain ⟨T8, X8, e8, st8⟩ := getS2 X3 hx hZ hown (host := "") (Or.inl (hw _ (List.mem_of_getElem? (i := 1) rfl))) Via.refl e3 S_ABS (g := (mkF m 56 #[vI p1, vI p2, vI p3, vI 0, vI ((p3 &&& (2147483647 : Int32)) % (3 : Int32)), vI v2, .unset, .unset] [])) rfl (hb hby at_56)
    obtain ⟨v9, hv9⟩ : ∃ z : Int32, z = (if v2 = (1 : Int32) then (1 : Int32) else (0 : Int32)) := ⟨_, rfl⟩
    obtain ⟨T10, X10, e10, st10⟩ : own_Mid X8 h0 (mkF m 64 #[vI p1, vI p2, vI p3, vI 0, vI ((p3 &&& (2147483647 : Int32)) % (3 : Int32)), vI v2, vR s_ABS, .unset] [iI 1, iI v2]) (mkF m 72 #[vI p1, vI p2, vI p3, vI 0, vI ((p3 &&& (2147483647 : Int32)) % (3 : Int32)), vI v2, vR s_ABS, .unset] [iI v9]) := by
      by_cases hc11 : v2 = (1 : Int32)
      · refine ⟨T8, X8, e8, fun t kt => ?_⟩
        subst hv9
        simp only [if_pos hc11] at kt
        show Steps _ _ _ (T8.setTop (mkF m 64 #[vI p1, vI p2, vI p3, vI 0, vI ((p3 &&& (2147483647 : Int32)) % (3 : Int32)), vI v2, vR s_ABS, .unset] [iI 1, iI v2])) _
        refine XS.icmpNo X8.here hx rfl (hb hby at_64) rfl (teq hc11).2 ?_
        show Steps _ _ _ (T8.setTop (mkF m 67 #[vI p1, vI p2, vI p3, vI 0, vI ((p3 &&& (2147483647 : Int32)) % (3 : Int32)), vI v2, vR s_ABS, .unset] [])) _
        refine XS.iconst X8.here hx rfl (hb hby at_67) ?_
        show Steps _ _ _ (T8.setTop (mkF m 68 #[vI p1, vI p2, vI p3, vI 0, vI ((p3 &&& (2147483647 : Int32)) % (3 : Int32)), vI v2, vR s_ABS, .unset] [iI 1])) _
        refine XS.goto X8.here hx rfl (pc0 := 68) (pc' := 72) rfl (hb hby at_68) (by decide) (by decide) ?_
        exact kt
      · refine ⟨T8, X8, e8, fun t kt => ?_⟩
        subst hv9
        simp only [if_neg hc11] at kt
        show Steps _ _ _ (T8.setTop (mkF m 64 #[vI p1, vI p2, vI p3, vI 0, vI ((p3 &&& (2147483647 : Int32)) % (3 : Int32)), vI v2, vR s_ABS, .unset] [iI 1, iI v2])) _
        refine XS.icmpYes X8.here hx rfl (pc0 := 64) (pc' := 71) rfl (hb hby at_64) rfl (feq hc11).2 (by decide) (by decide) ?_
        show Steps _ _ _ (T8.setTop (mkF m 71 #[vI p1, vI p2, vI p3, vI 0, vI ((p3 &&& (2147483647 : Int32)) % (3 : Int32)), vI v2, vR s_ABS, .unset] [])) _
        refine XS.iconst X8.here hx rfl (hb hby at_71) ?_
        exact kt
    obtain ⟨cq12, kq12, q12a, q12b, q12c⟩ := isOf hZ e10 E_ABS
    obtain ⟨_, _, ⟨T12, L12, k12, n12⟩, -, X12, ⟨Lc12, hQ12, l12, y12, z12⟩, st12⟩ := X10.virtualBack hx (y := (⟨"com/example/nullwise/nullwise/Function", "takes", "(I)Z"⟩ : MethodName)) (z := (⟨"com/example/nullwise/nullwise/Function", "takes", "(I)Z"⟩ : MethodName)) hown (mvT hZ (hw _ (List.mem_of_getElem? (i := 4) rfl))) (mvT hZ (hw _ (List.mem_of_getElem? (i := 5) rfl))) (notFace_of_selects (args := #[]) (mvT hZ (hw _ (List.mem_of_getElem? (i := 7) rfl)))) (mvT hZ (hw _ (List.mem_of_getElem? (i := 7) rfl))) (mvT hZ (hw _ (List.mem_of_getElem? (i := 6) rfl))) (by decide) (backOf (W := 0) (rm1_0 l Z a0 hw [] v2 s_ABS s_RANGE s_NVL2 s_ATLEASTNNONNULLS s_CONCAT s_IFNULL s_NULLIF s_COALESCE h0 S_ABS E_ABS F_fewestArguments_ABS F_mostArguments_ABS S_RANGE E_RANGE F_fewestArguments_RANGE F_mostArguments_RANGE S_NVL2 E_NVL2 F_fewestArguments_NVL2 S_ATLEASTNNONNULLS E_ATLEASTNNONNULLS F_fewestArguments_ATLEASTNNONNULLS S_CONCAT E_CONCAT F_fewestArguments_CONCAT F_mostArguments_CONCAT S_IFNULL E_IFNULL F_fewestArguments_IFNULL F_mostArguments_IFNULL S_NULLIF E_NULLIF F_fewestArguments_NULLIF F_mostArguments_NULLIF S_COALESCE E_COALESCE F_fewestArguments_COALESCE F_mostArguments_COALESCE F_mostArguments_ATLEASTNNONNULLS F_mostArguments_NVL2) hZ (hw _ (List.mem_of_getElem? (i := 8) rfl)) (hw _ (List.mem_of_getElem? (i := 2) rfl)) (by decide) (by decide)) q12a q12c (g := (mkF m 259 #[vI p1, vI p2, vI p3, vI 0, vI ((p3 &&& (2147483647 : Int32)) % (3 : Int32)), vI v2, vR s_ABS, vI v9] [iI v2, iR s_ABS])) rfl (by rw [hml]; rfl) (Steps.refl _) (argsL := [(.int v2)]) (rest := []) (lenOf pd_0 rfl) rfl (by show 2 * 0 + _ ≤ _; exact Nat.le_of_eq rfl) (hb hby at_259) (fun _ _ => ⟨rfl, e10, (by decide : 0 + 0 ≤ _), (by decide : 0 + 0 ≤ _)⟩)
    dsimp only [Pt.U, Pt.locs, Pt.cells, Pt.slots] at X12 l12 y12 z12 st12 hQ12
    subst l12 y12 z12
    obtain ⟨rfl, rfl, e12⟩ := hQ12
    try rw [List.append_nil] at X12
    have hh13 : (own_tk_0 v2) = v9 := (by rw [hv9]; exact own_eq_0 _)
    obtain ⟨fs, hr, hrun, hended, hW, hsame⟩ := X12.leave (v := some (.int (1 : Int32))) (fun h => by rw [Bd.returns] at h; cases h)
    refine ⟨_, _, pre7 _ ?_, hrun, hended, _, _, rfl, ?_, ⟨_, rfl⟩, hW, hsame.mono (by decide) (by decide)⟩
    · show Steps _ _ _ (T3.setTop (mkF m 52 #[vI p1, vI p2, vI p3, vI 0, vI ((p3 &&& (2147483647 : Int32)) % (3 : Int32)), vI v2, .unset, .unset] [])) _
      refine XS.iloadN X3.here hx rfl (hb hby at_52) rfl ?_
      show Steps _ _ _ (T3.setTop (mkF m 53 #[vI p1, vI p2, vI p3, vI 0, vI ((p3 &&& (2147483647 : Int32)) % (3 : Int32)), vI v2, .unset, .unset] [iI 0])) _
      refine XS.ifNo X3.here hx rfl (hb hby at_53) rfl ((if0 _ _).trans (teq (by decide : (0 : Int32) = (0 : Int32))).2) ?_
      show Steps _ _ _ (T3.setTop (mkF m 56 #[vI p1, vI p2, vI p3, vI 0, vI ((p3 &&& (2147483647 : Int32)) % (3 : Int32)), vI v2, .unset, .unset] [])) _
      refine st8 _ ?_
      show Steps _ _ _ (T8.setTop (mkF m 59 #[vI p1, vI p2, vI p3, vI 0, vI ((p3 &&& (2147483647 : Int32)) % (3 : Int32)), vI v2, .unset, .unset] [iR s_ABS])) _
      refine XS.astore X8.here hx rfl (hb hby at_59) rfl rfl (l' := #[vI p1, vI p2, vI p3, vI 0, vI ((p3 &&& (2147483647 : Int32)) % (3 : Int32)), vI v2, vR s_ABS, .unset]) rfl ?_
      show Steps _ _ _ (T8.setTop (mkF m 61 #[vI p1, vI p2, vI p3, vI 0, vI ((p3 &&& (2147483647 : Int32)) % (3 : Int32)), vI v2, vR s_ABS, .unset] [])) _
      refine XS.iload X8.here hx rfl (hb hby at_61) rfl ?_
      show Steps _ _ _ (T8.setTop (mkF m 63 #[vI p1, vI p2, vI p3, vI 0, vI ((p3 &&& (2147483647 : Int32)) % (3 : Int32)), vI v2, vR s_ABS, .unset] [iI v2])) _
      refine XS.iconst X8.here hx rfl (hb hby at_63) ?_
      show Steps _ _ _ (T8.setTop (mkF m 64 #[vI p1, vI p2, vI p3, vI 0, vI ((p3 &&& (2147483647 : Int32)) % (3 : Int32)), vI v2, vR s_ABS, .unset] [iI 1, iI v2])) _
      refine st10 _ ?_
      show Steps _ _ _ (T10.setTop (mkF m 72 #[vI p1, vI p2, vI p3, vI 0, vI ((p3 &&& (2147483647 : Int32)) % (3 : Int32)), vI v2, vR s_ABS, .unset] [iI v9])) _
      refine XS.istore X10.here hx rfl (hb hby at_72) rfl (l' := #[vI p1, vI p2, vI p3, vI 0, vI ((p3 &&& (2147483647 : Int32)) % (3 : Int32)), vI v2, vR s_ABS, vI v9]) rfl ?_
      show Steps _ _ _ (T10.setTop (mkF m 74 #[vI p1, vI p2, vI p3, vI 0, vI ((p3 &&& (2147483647 : Int32)) % (3 : Int32)), vI v2, vR s_ABS, vI v9] [])) _
      refine XS.goto X10.here hx rfl (pc0 := 74) (pc' := 255) rfl (hb hby at_74) (by decide) (by decide) ?_
      show Steps _ _ _ (T10.setTop (mkF m 255 #[vI p1, vI p2, vI p3, vI 0, vI ((p3 &&& (2147483647 : Int32)) % (3 : Int32)), vI v2, vR s_ABS, vI v9] [])) _
      refine XS.aload X10.here hx rfl (hb hby at_255) rfl rfl ?_
      show Steps _ _ _ (T10.setTop (mkF m 257 #[vI p1, vI p2, vI p3, vI 0, vI ((p3 &&& (2147483647 : Int32)) % (3 : Int32)), vI v2, vR s_ABS, vI v9] [iR s_ABS])) _
      refine XS.iload X10.here hx rfl (hb hby at_257) rfl ?_
      show Steps _ _ _ (T10.setTop (mkF m 259 #[vI p1, vI p2, vI p3, vI 0, vI ((p3 &&& (2147483647 : Int32)) % (3 : Int32)), vI v2, vR s_ABS, vI v9] [iI v2, iR s_ABS])) _
      refine st12.trans ?_
      show Steps _ _ _ (T12.setTop (mkF m 262 #[vI p1, vI p2, vI p3, vI 0, vI ((p3 &&& (2147483647 : Int32)) % (3 : Int32)), vI v2, vR s_ABS, vI v9] [iI (own_tk_0 v2)])) _
      refine XS.iload X12.here hx rfl (hb hby at_262) rfl ?_
      show Steps _ _ _ (T12.setTop (mkF m 264 #[vI p1, vI p2, vI p3, vI 0, vI ((p3 &&& (2147483647 : Int32)) % (3 : Int32)), vI v2, vR s_ABS, vI v9] [iI v9, iI (own_tk_0 v2)])) _
      refine XS.icmpNo X12.here hx rfl (hb hby at_264) rfl (teq hh13).2 ?_
      show Steps _ _ _ (T12.setTop (mkF m 267 #[vI p1, vI p2, vI p3, vI 0, vI ((p3 &&& (2147483647 : Int32)) % (3 : Int32)), vI v2, vR s_ABS, vI v9] [])) _
      refine XS.iconst X12.here hx rfl (hb hby at_267) ?_
      show Steps _ _ _ (T12.setTop (mkF m 268 #[vI p1, vI p2, vI p3, vI 0, vI ((p3 &&& (2147483647 : Int32)) % (3 : Int32)), vI v2, vR s_ABS, vI v9] [iI 1])) _
      refine XS.goto X12.here hx rfl (pc0 := 268) (pc' := 272) rfl (hb hby at_268) (by decide) (by decide) ?_
      show Steps _ _ _ (T12.setTop (mkF m 272 #[vI p1, vI p2, vI p3, vI 0, vI ((p3 &&& (2147483647 : Int32)) % (3 : Int32)), vI v2, vR s_ABS, vI v9] [iI 1])) _
      exact retN X12 hx (t := .boolean) Bd.returns (by simp) (hb hby at_272) hr
    · show Q0 Z p1 p2 p3 s_ABS s_RANGE s_NVL2 s_ATLEASTNNONNULLS s_CONCAT s_IFNULL s_NULLIF s_COALESCE h0 _ T12.heap _
      rw [e12]
      exact ⟨rfl, rfl, rfl⟩
  · obtain ⟨T14, X14, e14, st14⟩ := getS2 X3 hx hZ hown (host := "") (Or.inl (hw _ (List.mem_of_getElem? (i := 13) rfl))) Via.refl e3 S_RANGE (g := (mkF m 82 #[vI p1, vI p2, vI p3, vI 1, vI ((p3 &&& (2147483647 : Int32)) % (3 : Int32)), vI v2, .unset, .unset] [])) rfl (hb hby at_82)
    obtain ⟨v15, hv15⟩ : ∃ z : Int32, z = (if v2 = (2 : Int32) then (1 : Int32) else (if v2 = (3 : Int32) then (1 : Int32) else (0 : Int32))) := ⟨_, rfl⟩
    obtain ⟨T16, X16, e16, st16⟩ : own_Mid X14 h0 (mkF m 90 #[vI p1, vI p2, vI p3, vI 1, vI ((p3 &&& (2147483647 : Int32)) % (3 : Int32)), vI v2, vR s_RANGE, .unset] [iI 2, iI v2]) (mkF m 104 #[vI p1, vI p2, vI p3, vI 1, vI ((p3 &&& (2147483647 : Int32)) % (3 : Int32)), vI v2, vR s_RANGE, .unset] [iI v15]) := by
      by_cases hc17 : v2 = (2 : Int32)
      · refine ⟨T14, X14, e14, fun t kt => ?_⟩
        subst hv15
        simp only [if_pos hc17] at kt
        show Steps _ _ _ (T14.setTop (mkF m 90 #[vI p1, vI p2, vI p3, vI 1, vI ((p3 &&& (2147483647 : Int32)) % (3 : Int32)), vI v2, vR s_RANGE, .unset] [iI 2, iI v2])) _
        refine XS.icmpYes X14.here hx rfl (pc0 := 90) (pc' := 99) rfl (hb hby at_90) rfl (teq hc17).1 (by decide) (by decide) ?_
        show Steps _ _ _ (T14.setTop (mkF m 99 #[vI p1, vI p2, vI p3, vI 1, vI ((p3 &&& (2147483647 : Int32)) % (3 : Int32)), vI v2, vR s_RANGE, .unset] [])) _
        refine XS.iconst X14.here hx rfl (hb hby at_99) ?_
        show Steps _ _ _ (T14.setTop (mkF m 100 #[vI p1, vI p2, vI p3, vI 1, vI ((p3 &&& (2147483647 : Int32)) % (3 : Int32)), vI v2, vR s_RANGE, .unset] [iI 1])) _
        refine XS.goto X14.here hx rfl (pc0 := 100) (pc' := 104) rfl (hb hby at_100) (by decide) (by decide) ?_
        exact kt
      · have pre19 : ∀ t, Steps p.tables e below (T14.setTop (mkF m 96 #[vI p1, vI p2, vI p3, vI 1, vI ((p3 &&& (2147483647 : Int32)) % (3 : Int32)), vI v2, vR s_RANGE, .unset] [iI 3, iI v2])) t → Steps p.tables e below (T14.setTop (mkF m 90 #[vI p1, vI p2, vI p3, vI 1, vI ((p3 &&& (2147483647 : Int32)) % (3 : Int32)), vI v2, vR s_RANGE, .unset] [iI 2, iI v2])) t := by
          intro t kt
          show Steps _ _ _ (T14.setTop (mkF m 90 #[vI p1, vI p2, vI p3, vI 1, vI ((p3 &&& (2147483647 : Int32)) % (3 : Int32)), vI v2, vR s_RANGE, .unset] [iI 2, iI v2])) _
          refine XS.icmpNo X14.here hx rfl (hb hby at_90) rfl (feq hc17).1 ?_
          show Steps _ _ _ (T14.setTop (mkF m 93 #[vI p1, vI p2, vI p3, vI 1, vI ((p3 &&& (2147483647 : Int32)) % (3 : Int32)), vI v2, vR s_RANGE, .unset] [])) _
          refine XS.iload X14.here hx rfl (hb hby at_93) rfl ?_
          show Steps _ _ _ (T14.setTop (mkF m 95 #[vI p1, vI p2, vI p3, vI 1, vI ((p3 &&& (2147483647 : Int32)) % (3 : Int32)), vI v2, vR s_RANGE, .unset] [iI v2])) _
          refine XS.iconst X14.here hx rfl (hb hby at_95) ?_
          exact kt
        by_cases hc18 : v2 = (3 : Int32)
        · refine ⟨T14, X14, e14, fun t kt => ?_⟩
          subst hv15
          simp only [if_neg hc17, if_pos hc18] at kt
          refine pre19 t ?_
          show Steps _ _ _ (T14.setTop (mkF m 96 #[vI p1, vI p2, vI p3, vI 1, vI ((p3 &&& (2147483647 : Int32)) % (3 : Int32)), vI v2, vR s_RANGE, .unset] [iI 3, iI v2])) _
          refine XS.icmpNo X14.here hx rfl (hb hby at_96) rfl (teq hc18).2 ?_
          show Steps _ _ _ (T14.setTop (mkF m 99 #[vI p1, vI p2, vI p3, vI 1, vI ((p3 &&& (2147483647 : Int32)) % (3 : Int32)), vI v2, vR s_RANGE, .unset] [])) _
          refine XS.iconst X14.here hx rfl (hb hby at_99) ?_
          show Steps _ _ _ (T14.setTop (mkF m 100 #[vI p1, vI p2, vI p3, vI 1, vI ((p3 &&& (2147483647 : Int32)) % (3 : Int32)), vI v2, vR s_RANGE, .unset] [iI 1])) _
          refine XS.goto X14.here hx rfl (pc0 := 100) (pc' := 104) rfl (hb hby at_100) (by decide) (by decide) ?_
          exact kt
        · refine ⟨T14, X14, e14, fun t kt => ?_⟩
          subst hv15
          simp only [if_neg hc17, if_neg hc18] at kt
          refine pre19 t ?_
          show Steps _ _ _ (T14.setTop (mkF m 96 #[vI p1, vI p2, vI p3, vI 1, vI ((p3 &&& (2147483647 : Int32)) % (3 : Int32)), vI v2, vR s_RANGE, .unset] [iI 3, iI v2])) _
          refine XS.icmpYes X14.here hx rfl (pc0 := 96) (pc' := 103) rfl (hb hby at_96) rfl (feq hc18).2 (by decide) (by decide) ?_
          show Steps _ _ _ (T14.setTop (mkF m 103 #[vI p1, vI p2, vI p3, vI 1, vI ((p3 &&& (2147483647 : Int32)) % (3 : Int32)), vI v2, vR s_RANGE, .unset] [])) _
          refine XS.iconst X14.here hx rfl (hb hby at_103) ?_
          exact kt
    obtain ⟨cq20, kq20, q20a, q20b, q20c⟩ := isOf hZ e16 E_RANGE
    obtain ⟨_, _, ⟨T20, L20, k20, n20⟩, -, X20, ⟨Lc20, hQ20, l20, y20, z20⟩, st20⟩ := X16.virtualBack hx (y := (⟨"com/example/nullwise/nullwise/Function", "takes", "(I)Z"⟩ : MethodName)) (z := (⟨"com/example/nullwise/nullwise/Function", "takes", "(I)Z"⟩ : MethodName)) hown (mvT hZ (hw _ (List.mem_of_getElem? (i := 4) rfl))) (mvT hZ (hw _ (List.mem_of_getElem? (i := 5) rfl))) (notFace_of_selects (args := #[]) (mvT hZ (hw _ (List.mem_of_getElem? (i := 7) rfl)))) (mvT hZ (hw _ (List.mem_of_getElem? (i := 7) rfl))) (mvT hZ (hw _ (List.mem_of_getElem? (i := 6) rfl))) (by decide) (backOf (W := 0) (rm1_1 l Z a0 hw [] v2 s_ABS s_RANGE s_NVL2 s_ATLEASTNNONNULLS s_CONCAT s_IFNULL s_NULLIF s_COALESCE h0 S_ABS E_ABS F_fewestArguments_ABS F_mostArguments_ABS S_RANGE E_RANGE F_fewestArguments_RANGE F_mostArguments_RANGE S_NVL2 E_NVL2 F_fewestArguments_NVL2 S_ATLEASTNNONNULLS E_ATLEASTNNONNULLS F_fewestArguments_ATLEASTNNONNULLS S_CONCAT E_CONCAT F_fewestArguments_CONCAT F_mostArguments_CONCAT S_IFNULL E_IFNULL F_fewestArguments_IFNULL F_mostArguments_IFNULL S_NULLIF E_NULLIF F_fewestArguments_NULLIF F_mostArguments_NULLIF S_COALESCE E_COALESCE F_fewestArguments_COALESCE F_mostArguments_COALESCE F_mostArguments_ATLEASTNNONNULLS F_mostArguments_NVL2) hZ (hw _ (List.mem_of_getElem? (i := 8) rfl)) (hw _ (List.mem_of_getElem? (i := 2) rfl)) (by decide) (by decide)) q20a q20c (g := (mkF m 259 #[vI p1, vI p2, vI p3, vI 1, vI ((p3 &&& (2147483647 : Int32)) % (3 : Int32)), vI v2, vR s_RANGE, vI v15] [iI v2, iR s_RANGE])) rfl (by rw [hml]; rfl) (Steps.refl _) (argsL := [(.int v2)]) (rest := []) (lenOf pd_0 rfl) rfl (by show 2 * 0 + _ ≤ _; exact Nat.le_of_eq rfl) (hb hby at_259) (fun _ _ => ⟨rfl, e16, (by decide : 0 + 0 ≤ _), (by decide : 0 + 0 ≤ _)⟩)
    dsimp only [Pt.U, Pt.locs, Pt.cells, Pt.slots] at X20 l20 y20 z20 st20 hQ20
    subst l20 y20 z20
    obtain ⟨rfl, rfl, e20⟩ := hQ20
    try rw [List.append_nil] at X20
    have hh21 : (own_tk_1 v2) = v15 := (by rw [hv15]; exact own_eq_1 _)
    obtain ⟨fs, hr, hrun, hended, hW, hsame⟩ := X20.leave (v := some (.int (1 : Int32))) (fun h => by rw [Bd.returns] at h; cases h)
    refine ⟨_, _, pre7 _ ?_, hrun, hended, _, _, rfl, ?_, ⟨_, rfl⟩, hW, hsame.mono (by decide) (by decide)⟩
    · show Steps _ _ _ (T3.setTop (mkF m 52 #[vI p1, vI p2, vI p3, vI 1, vI ((p3 &&& (2147483647 : Int32)) % (3 : Int32)), vI v2, .unset, .unset] [])) _
      refine XS.iloadN X3.here hx rfl (hb hby at_52) rfl ?_
      show Steps _ _ _ (T3.setTop (mkF m 53 #[vI p1, vI p2, vI p3, vI 1, vI ((p3 &&& (2147483647 : Int32)) % (3 : Int32)), vI v2, .unset, .unset] [iI 1])) _
      refine XS.ifYes X3.here hx rfl (pc0 := 53) (pc' := 77) rfl (hb hby at_53) rfl ((if0 _ _).trans (feq (by decide : ¬ ((1 : Int32) = (0 : Int32)))).2) (by decide) (by decide) ?_
      show Steps _ _ _ (T3.setTop (mkF m 77 #[vI p1, vI p2, vI p3, vI 1, vI ((p3 &&& (2147483647 : Int32)) % (3 : Int32)), vI v2, .unset, .unset] [])) _
      refine XS.iloadN X3.here hx rfl (hb hby at_77) rfl ?_
      show Steps _ _ _ (T3.setTop (mkF m 78 #[vI p1, vI p2, vI p3, vI 1, vI ((p3 &&& (2147483647 : Int32)) % (3 : Int32)), vI v2, .unset, .unset] [iI 1])) _
      refine XS.iconst X3.here hx rfl (hb hby at_78) ?_
      show Steps _ _ _ (T3.setTop (mkF m 79 #[vI p1, vI p2, vI p3, vI 1, vI ((p3 &&& (2147483647 : Int32)) % (3 : Int32)), vI v2, .unset, .unset] [iI 1, iI 1])) _
      refine XS.icmpNo X3.here hx rfl (hb hby at_79) rfl (teq (by decide : (1 : Int32) = (1 : Int32))).2 ?_
      show Steps _ _ _ (T3.setTop (mkF m 82 #[vI p1, vI p2, vI p3, vI 1, vI ((p3 &&& (2147483647 : Int32)) % (3 : Int32)), vI v2, .unset, .unset] [])) _
      refine st14 _ ?_
      show Steps _ _ _ (T14.setTop (mkF m 85 #[vI p1, vI p2, vI p3, vI 1, vI ((p3 &&& (2147483647 : Int32)) % (3 : Int32)), vI v2, .unset, .unset] [iR s_RANGE])) _
      refine XS.astore X14.here hx rfl (hb hby at_85) rfl rfl (l' := #[vI p1, vI p2, vI p3, vI 1, vI ((p3 &&& (2147483647 : Int32)) % (3 : Int32)), vI v2, vR s_RANGE, .unset]) rfl ?_
      show Steps _ _ _ (T14.setTop (mkF m 87 #[vI p1, vI p2, vI p3, vI 1, vI ((p3 &&& (2147483647 : Int32)) % (3 : Int32)), vI v2, vR s_RANGE, .unset] [])) _
      refine XS.iload X14.here hx rfl (hb hby at_87) rfl ?_
      show Steps _ _ _ (T14.setTop (mkF m 89 #[vI p1, vI p2, vI p3, vI 1, vI ((p3 &&& (2147483647 : Int32)) % (3 : Int32)), vI v2, vR s_RANGE, .unset] [iI v2])) _
      refine XS.iconst X14.here hx rfl (hb hby at_89) ?_
      show Steps _ _ _ (T14.setTop (mkF m 90 #[vI p1, vI p2, vI p3, vI 1, vI ((p3 &&& (2147483647 : Int32)) % (3 : Int32)), vI v2, vR s_RANGE, .unset] [iI 2, iI v2])) _
      refine st16 _ ?_
      show Steps _ _ _ (T16.setTop (mkF m 104 #[vI p1, vI p2, vI p3, vI 1, vI ((p3 &&& (2147483647 : Int32)) % (3 : Int32)), vI v2, vR s_RANGE, .unset] [iI v15])) _
      refine XS.istore X16.here hx rfl (hb hby at_104) rfl (l' := #[vI p1, vI p2, vI p3, vI 1, vI ((p3 &&& (2147483647 : Int32)) % (3 : Int32)), vI v2, vR s_RANGE, vI v15]) rfl ?_
      show Steps _ _ _ (T16.setTop (mkF m 106 #[vI p1, vI p2, vI p3, vI 1, vI ((p3 &&& (2147483647 : Int32)) % (3 : Int32)), vI v2, vR s_RANGE, vI v15] [])) _
      refine XS.goto X16.here hx rfl (pc0 := 106) (pc' := 255) rfl (hb hby at_106) (by decide) (by decide) ?_
      show Steps _ _ _ (T16.setTop (mkF m 255 #[vI p1, vI p2, vI p3, vI 1, vI ((p3 &&& (2147483647 : Int32)) % (3 : Int32)), vI v2, vR s_RANGE, vI v15] [])) _
      refine XS.aload X16.here hx rfl (hb hby at_255) rfl rfl ?_
      show Steps _ _ _ (T16.setTop (mkF m 257 #[vI p1, vI p2, vI p3, vI 1, vI ((p3 &&& (2147483647 : Int32)) % (3 : Int32)), vI v2, vR s_RANGE, vI v15] [iR s_RANGE])) _
      refine XS.iload X16.here hx rfl (hb hby at_257) rfl ?_
      show Steps _ _ _ (T16.setTop (mkF m 259 #[vI p1, vI p2, vI p3, vI 1, vI ((p3 &&& (2147483647 : Int32)) % (3 : Int32)), vI v2, vR s_RANGE, vI v15] [iI v2, iR s_RANGE])) _
      refine st20.trans ?_
      show Steps _ _ _ (T20.setTop (mkF m 262 #[vI p1, vI p2, vI p3, vI 1, vI ((p3 &&& (2147483647 : Int32)) % (3 : Int32)), vI v2, vR s_RANGE, vI v15] [iI (own_tk_1 v2)])) _
      refine XS.iload X20.here hx rfl (hb hby at_262) rfl ?_
      show Steps _ _ _ (T20.setTop (mkF m 264 #[vI p1, vI p2, vI p3, vI 1, vI ((p3 &&& (2147483647 : Int32)) % (3 : Int32)), vI v2, vR s_RANGE, vI v15] [iI v15, iI (own_tk_1 v2)])) _
      refine XS.icmpNo X20.here hx rfl (hb hby at_264) rfl (teq hh21).2 ?_
      show Steps _ _ _ (T20.setTop (mkF m 267 #[vI p1, vI p2, vI p3, vI 1, vI ((p3 &&& (2147483647 : Int32)) % (3 : Int32)), vI v2, vR s_RANGE, vI v15] [])) _
      refine XS.iconst X20.here hx rfl (hb hby at_267) ?_
      show Steps _ _ _ (T20.setTop (mkF m 268 #[vI p1, vI p2, vI p3, vI 1, vI ((p3 &&& (2147483647 : Int32)) % (3 : Int32)), vI v2, vR s_RANGE, vI v15] [iI 1])) _
      refine XS.goto X20.here hx rfl (pc0 := 268) (pc' := 272) rfl (hb hby at_268) (by decide) (by decide) ?_
      show Steps _ _ _ (T20.setTop (mkF m 272 #[vI p1, vI p2, vI p3, vI 1, vI ((p3 &&& (2147483647 : Int32)) % (3 : Int32)), vI v2, vR s_RANGE, vI v15] [iI 1])) _
      exact retN X20 hx (t := .boolean) Bd.returns (by simp) (hb hby at_272) hr
    · show Q0 Z p1 p2 p3 s_ABS s_RANGE s_NVL2 s_ATLEASTNNONNULLS s_CONCAT s_IFNULL s_NULLIF s_COALESCE h0 _ T20.heap _
      rw [e20]
      exact ⟨rfl, rfl, rfl⟩
  · obtain ⟨T22, X22, e22, st22⟩ := getS2 X3 hx hZ hown (host := "") (Or.inl (hw _ (List.mem_of_getElem? (i := 19) rfl))) Via.refl e3 S_CONCAT (g := (mkF m 114 #[vI p1, vI p2, vI p3, vI 2, vI ((p3 &&& (2147483647 : Int32)) % (3 : Int32)), vI v2, .unset, .unset] [])) rfl (hb hby at_114)
    obtain ⟨v23, hv23⟩ : ∃ z : Int32, z = (if (0 : Int32) < v2 then (1 : Int32) else (0 : Int32)) := ⟨_, rfl⟩
    obtain ⟨T24, X24, e24, st24⟩ : own_Mid X22 h0 (mkF m 121 #[vI p1, vI p2, vI p3, vI 2, vI ((p3 &&& (2147483647 : Int32)) % (3 : Int32)), vI v2, vR s_CONCAT, .unset] [iI v2]) (mkF m 129 #[vI p1, vI p2, vI p3, vI 2, vI ((p3 &&& (2147483647 : Int32)) % (3 : Int32)), vI v2, vR s_CONCAT, .unset] [iI v23]) := by
      by_cases hc25 : (0 : Int32) < v2
      · refine ⟨T22, X22, e22, fun t kt => ?_⟩
        subst hv23
        simp only [if_pos hc25] at kt
        show Steps _ _ _ (T22.setTop (mkF m 121 #[vI p1, vI p2, vI p3, vI 2, vI ((p3 &&& (2147483647 : Int32)) % (3 : Int32)), vI v2, vR s_CONCAT, .unset] [iI v2])) _
        refine XS.ifNo X22.here hx rfl (hb hby at_121) rfl ((if0 _ _).trans (tlt hc25).2.2.2) ?_
        show Steps _ _ _ (T22.setTop (mkF m 124 #[vI p1, vI p2, vI p3, vI 2, vI ((p3 &&& (2147483647 : Int32)) % (3 : Int32)), vI v2, vR s_CONCAT, .unset] [])) _
        refine XS.iconst X22.here hx rfl (hb hby at_124) ?_
        show Steps _ _ _ (T22.setTop (mkF m 125 #[vI p1, vI p2, vI p3, vI 2, vI ((p3 &&& (2147483647 : Int32)) % (3 : Int32)), vI v2, vR s_CONCAT, .unset] [iI 1])) _
        refine XS.goto X22.here hx rfl (pc0 := 125) (pc' := 129) rfl (hb hby at_125) (by decide) (by decide) ?_
        exact kt
      · refine ⟨T22, X22, e22, fun t kt => ?_⟩
        subst hv23
        simp only [if_neg hc25] at kt
        show Steps _ _ _ (T22.setTop (mkF m 121 #[vI p1, vI p2, vI p3, vI 2, vI ((p3 &&& (2147483647 : Int32)) % (3 : Int32)), vI v2, vR s_CONCAT, .unset] [iI v2])) _
        refine XS.ifYes X22.here hx rfl (pc0 := 121) (pc' := 128) rfl (hb hby at_121) rfl ((if0 _ _).trans (flt hc25).2.2.2) (by decide) (by decide) ?_
        show Steps _ _ _ (T22.setTop (mkF m 128 #[vI p1, vI p2, vI p3, vI 2, vI ((p3 &&& (2147483647 : Int32)) % (3 : Int32)), vI v2, vR s_CONCAT, .unset] [])) _
        refine XS.iconst X22.here hx rfl (hb hby at_128) ?_
        exact kt
    obtain ⟨cq26, kq26, q26a, q26b, q26c⟩ := isOf hZ e24 E_CONCAT
    obtain ⟨_, _, ⟨T26, L26, k26, n26⟩, -, X26, ⟨Lc26, hQ26, l26, y26, z26⟩, st26⟩ := X24.virtualBack hx (y := (⟨"com/example/nullwise/nullwise/Function", "takes", "(I)Z"⟩ : MethodName)) (z := (⟨"com/example/nullwise/nullwise/Function", "takes", "(I)Z"⟩ : MethodName)) hown (mvT hZ (hw _ (List.mem_of_getElem? (i := 4) rfl))) (mvT hZ (hw _ (List.mem_of_getElem? (i := 5) rfl))) (notFace_of_selects (args := #[]) (mvT hZ (hw _ (List.mem_of_getElem? (i := 7) rfl)))) (mvT hZ (hw _ (List.mem_of_getElem? (i := 7) rfl))) (mvT hZ (hw _ (List.mem_of_getElem? (i := 6) rfl))) (by decide) (backOf (W := 0) (rm1_2 l Z a0 hw [] v2 s_ABS s_RANGE s_NVL2 s_ATLEASTNNONNULLS s_CONCAT s_IFNULL s_NULLIF s_COALESCE h0 S_ABS E_ABS F_fewestArguments_ABS F_mostArguments_ABS S_RANGE E_RANGE F_fewestArguments_RANGE F_mostArguments_RANGE S_NVL2 E_NVL2 F_fewestArguments_NVL2 S_ATLEASTNNONNULLS E_ATLEASTNNONNULLS F_fewestArguments_ATLEASTNNONNULLS S_CONCAT E_CONCAT F_fewestArguments_CONCAT F_mostArguments_CONCAT S_IFNULL E_IFNULL F_fewestArguments_IFNULL F_mostArguments_IFNULL S_NULLIF E_NULLIF F_fewestArguments_NULLIF F_mostArguments_NULLIF S_COALESCE E_COALESCE F_fewestArguments_COALESCE F_mostArguments_COALESCE F_mostArguments_ATLEASTNNONNULLS F_mostArguments_NVL2) hZ (hw _ (List.mem_of_getElem? (i := 8) rfl)) (hw _ (List.mem_of_getElem? (i := 2) rfl)) (by decide) (by decide)) q26a q26c (g := (mkF m 259 #[vI p1, vI p2, vI p3, vI 2, vI ((p3 &&& (2147483647 : Int32)) % (3 : Int32)), vI v2, vR s_CONCAT, vI v23] [iI v2, iR s_CONCAT])) rfl (by rw [hml]; rfl) (Steps.refl _) (argsL := [(.int v2)]) (rest := []) (lenOf pd_0 rfl) rfl (by show 2 * 0 + _ ≤ _; exact Nat.le_of_eq rfl) (hb hby at_259) (fun _ _ => ⟨rfl, e24, (by decide : 0 + 0 ≤ _), (by decide : 0 + 0 ≤ _)⟩)
    dsimp only [Pt.U, Pt.locs, Pt.cells, Pt.slots] at X26 l26 y26 z26 st26 hQ26
    subst l26 y26 z26
    obtain ⟨rfl, rfl, e26⟩ := hQ26
    try rw [List.append_nil] at X26
    have hh27 : (own_tk_2 v2) = v23 := (by rw [hv23]; exact own_eq_2 _)
    obtain ⟨fs, hr, hrun, hended, hW, hsame⟩ := X26.leave (v := some (.int (1 : Int32))) (fun h => by rw [Bd.returns] at h; cases h)
    refine ⟨_, _, pre7 _ ?_, hrun, hended, _, _, rfl, ?_, ⟨_, rfl⟩, hW, hsame.mono (by decide) (by decide)⟩
    · show Steps _ _ _ (T3.setTop (mkF m 52 #[vI p1, vI p2, vI p3, vI 2, vI ((p3 &&& (2147483647 : Int32)) % (3 : Int32)), vI v2, .unset, .unset] [])) _
      refine XS.iloadN X3.here hx rfl (hb hby at_52) rfl ?_
      show Steps _ _ _ (T3.setTop (mkF m 53 #[vI p1, vI p2, vI p3, vI 2, vI ((p3 &&& (2147483647 : Int32)) % (3 : Int32)), vI v2, .unset, .unset] [iI 2])) _
      refine XS.ifYes X3.here hx rfl (pc0 := 53) (pc' := 77) rfl (hb hby at_53) rfl ((if0 _ _).trans (feq (by decide : ¬ ((2 : Int32) = (0 : Int32)))).2) (by decide) (by decide) ?_
      show Steps _ _ _ (T3.setTop (mkF m 77 #[vI p1, vI p2, vI p3, vI 2, vI ((p3 &&& (2147483647 : Int32)) % (3 : Int32)), vI v2, .unset, .unset] [])) _
      refine XS.iloadN X3.here hx rfl (hb hby at_77) rfl ?_
      show Steps _ _ _ (T3.setTop (mkF m 78 #[vI p1, vI p2, vI p3, vI 2, vI ((p3 &&& (2147483647 : Int32)) % (3 : Int32)), vI v2, .unset, .unset] [iI 2])) _
      refine XS.iconst X3.here hx rfl (hb hby at_78) ?_
      show Steps _ _ _ (T3.setTop (mkF m 79 #[vI p1, vI p2, vI p3, vI 2, vI ((p3 &&& (2147483647 : Int32)) % (3 : Int32)), vI v2, .unset, .unset] [iI 1, iI 2])) _
      refine XS.icmpYes X3.here hx rfl (pc0 := 79) (pc' := 109) rfl (hb hby at_79) rfl (feq (by decide : ¬ ((2 : Int32) = (1 : Int32)))).2 (by decide) (by decide) ?_
      show Steps _ _ _ (T3.setTop (mkF m 109 #[vI p1, vI p2, vI p3, vI 2, vI ((p3 &&& (2147483647 : Int32)) % (3 : Int32)), vI v2, .unset, .unset] [])) _
      refine XS.iloadN X3.here hx rfl (hb hby at_109) rfl ?_
      show Steps _ _ _ (T3.setTop (mkF m 110 #[vI p1, vI p2, vI p3, vI 2, vI ((p3 &&& (2147483647 : Int32)) % (3 : Int32)), vI v2, .unset, .unset] [iI 2])) _
      refine XS.iconst X3.here hx rfl (hb hby at_110) ?_
      show Steps _ _ _ (T3.setTop (mkF m 111 #[vI p1, vI p2, vI p3, vI 2, vI ((p3 &&& (2147483647 : Int32)) % (3 : Int32)), vI v2, .unset, .unset] [iI 2, iI 2])) _
      refine XS.icmpNo X3.here hx rfl (hb hby at_111) rfl (teq (by decide : (2 : Int32) = (2 : Int32))).2 ?_
      show Steps _ _ _ (T3.setTop (mkF m 114 #[vI p1, vI p2, vI p3, vI 2, vI ((p3 &&& (2147483647 : Int32)) % (3 : Int32)), vI v2, .unset, .unset] [])) _
      refine st22 _ ?_
      show Steps _ _ _ (T22.setTop (mkF m 117 #[vI p1, vI p2, vI p3, vI 2, vI ((p3 &&& (2147483647 : Int32)) % (3 : Int32)), vI v2, .unset, .unset] [iR s_CONCAT])) _
      refine XS.astore X22.here hx rfl (hb hby at_117) rfl rfl (l' := #[vI p1, vI p2, vI p3, vI 2, vI ((p3 &&& (2147483647 : Int32)) % (3 : Int32)), vI v2, vR s_CONCAT, .unset]) rfl ?_
      show Steps _ _ _ (T22.setTop (mkF m 119 #[vI p1, vI p2, vI p3, vI 2, vI ((p3 &&& (2147483647 : Int32)) % (3 : Int32)), vI v2, vR s_CONCAT, .unset] [])) _
      refine XS.iload X22.here hx rfl (hb hby at_119) rfl ?_
      show Steps _ _ _ (T22.setTop (mkF m 121 #[vI p1, vI p2, vI p3, vI 2, vI ((p3 &&& (2147483647 : Int32)) % (3 : Int32)), vI v2, vR s_CONCAT, .unset] [iI v2])) _
      refine st24 _ ?_
      show Steps _ _ _ (T24.setTop (mkF m 129 #[vI p1, vI p2, vI p3, vI 2, vI ((p3 &&& (2147483647 : Int32)) % (3 : Int32)), vI v2, vR s_CONCAT, .unset] [iI v23])) _
      refine XS.istore X24.here hx rfl (hb hby at_129) rfl (l' := #[vI p1, vI p2, vI p3, vI 2, vI ((p3 &&& (2147483647 : Int32)) % (3 : Int32)), vI v2, vR s_CONCAT, vI v23]) rfl ?_
      show Steps _ _ _ (T24.setTop (mkF m 131 #[vI p1, vI p2, vI p3, vI 2, vI ((p3 &&& (2147483647 : Int32)) % (3 : Int32)), vI v2, vR s_CONCAT, vI v23] [])) _
      refine XS.goto X24.here hx rfl (pc0 := 131) (pc' := 255) rfl (hb hby at_131) (by decide) (by decide) ?_
      show Steps _ _ _ (T24.setTop (mkF m 255 #[vI p1, vI p2, vI p3, vI 2, vI ((p3 &&& (2147483647 : Int32)) % (3 : Int32)), vI v2, vR s_CONCAT, vI v23] [])) _
      refine XS.aload X24.here hx rfl (hb hby at_255) rfl rfl ?_
      show Steps _ _ _ (T24.setTop (mkF m 257 #[vI p1, vI p2, vI p3, vI 2, vI ((p3 &&& (2147483647 : Int32)) % (3 : Int32)), vI v2, vR s_CONCAT, vI v23] [iR s_CONCAT])) _
      refine XS.iload X24.here hx rfl (hb hby at_257) rfl ?_
      show Steps _ _ _ (T24.setTop (mkF m 259 #[vI p1, vI p2, vI p3, vI 2, vI ((p3 &&& (2147483647 : Int32)) % (3 : Int32)), vI v2, vR s_CONCAT, vI v23] [iI v2, iR s_CONCAT])) _
      refine st26.trans ?_
      show Steps _ _ _ (T26.setTop (mkF m 262 #[vI p1, vI p2, vI p3, vI 2, vI ((p3 &&& (2147483647 : Int32)) % (3 : Int32)), vI v2, vR s_CONCAT, vI v23] [iI (own_tk_2 v2)])) _
      refine XS.iload X26.here hx rfl (hb hby at_262) rfl ?_
      show Steps _ _ _ (T26.setTop (mkF m 264 #[vI p1, vI p2, vI p3, vI 2, vI ((p3 &&& (2147483647 : Int32)) % (3 : Int32)), vI v2, vR s_CONCAT, vI v23] [iI v23, iI (own_tk_2 v2)])) _
      refine XS.icmpNo X26.here hx rfl (hb hby at_264) rfl (teq hh27).2 ?_
      show Steps _ _ _ (T26.setTop (mkF m 267 #[vI p1, vI p2, vI p3, vI 2, vI ((p3 &&& (2147483647 : Int32)) % (3 : Int32)), vI v2, vR s_CONCAT, vI v23] [])) _
      refine XS.iconst X26.here hx rfl (hb hby at_267) ?_
      show Steps _ _ _ (T26.setTop (mkF m 268 #[vI p1, vI p2, vI p3, vI 2, vI ((p3 &&& (2147483647 : Int32)) % (3 : Int32)), vI v2, vR s_CONCAT, vI v23] [iI 1])) _
      refine XS.goto X26.here hx rfl (pc0 := 268) (pc' := 272) rfl (hb hby at_268) (by decide) (by decide) ?_
      show Steps _ _ _ (T26.setTop (mkF m 272 #[vI p1, vI p2, vI p3, vI 2, vI ((p3 &&& (2147483647 : Int32)) % (3 : Int32)), vI v2, vR s_CONCAT, vI v23] [iI 1])) _
      exact retN X26 hx (t := .boolean) Bd.returns (by simp) (hb hby at_272) hr
    · show Q0 Z p1 p2 p3 s_ABS s_RANGE s_NVL2 s_ATLEASTNNONNULLS s_CONCAT s_IFNULL s_NULLIF s_COALESCE h0 _ T26.heap _
      rw [e26]
      exact ⟨rfl, rfl, rfl⟩
  · obtain ⟨T28, X28, e28, st28⟩ := getS2 X3 hx hZ hown (host := "") (Or.inl (hw _ (List.mem_of_getElem? (i := 21) rfl))) Via.refl e3 S_IFNULL (g := (mkF m 139 #[vI p1, vI p2, vI p3, vI 3, vI ((p3 &&& (2147483647 : Int32)) % (3 : Int32)), vI v2, .unset, .unset] [])) rfl (hb hby at_139)
    obtain ⟨v29, hv29⟩ : ∃ z : Int32, z = (if v2 = (2 : Int32) then (1 : Int32) else (0 : Int32)) := ⟨_, rfl⟩
    obtain ⟨T30, X30, e30, st30⟩ : own_Mid X28 h0 (mkF m 147 #[vI p1, vI p2, vI p3, vI 3, vI ((p3 &&& (2147483647 : Int32)) % (3 : Int32)), vI v2, vR s_IFNULL, .unset] [iI 2, iI v2]) (mkF m 155 #[vI p1, vI p2, vI p3, vI 3, vI ((p3 &&& (2147483647 : Int32)) % (3 : Int32)), vI v2, vR s_IFNULL, .unset] [iI v29]) := by
      by_cases hc31 : v2 = (2 : Int32)
      · refine ⟨T28, X28, e28, fun t kt => ?_⟩
        subst hv29
        simp only [if_pos hc31] at kt
        show Steps _ _ _ (T28.setTop (mkF m 147 #[vI p1, vI p2, vI p3, vI 3, vI ((p3 &&& (2147483647 : Int32)) % (3 : Int32)), vI v2, vR s_IFNULL, .unset] [iI 2, iI v2])) _
        refine XS.icmpNo X28.here hx rfl (hb hby at_147) rfl (teq hc31).2 ?_
        show Steps _ _ _ (T28.setTop (mkF m 150 #[vI p1, vI p2, vI p3, vI 3, vI ((p3 &&& (2147483647 : Int32)) % (3 : Int32)), vI v2, vR s_IFNULL, .unset] [])) _
        refine XS.iconst X28.here hx rfl (hb hby at_150) ?_
        show Steps _ _ _ (T28.setTop (mkF m 151 #[vI p1, vI p2, vI p3, vI 3, vI ((p3 &&& (2147483647 : Int32)) % (3 : Int32)), vI v2, vR s_IFNULL, .unset] [iI 1])) _
        refine XS.goto X28.here hx rfl (pc0 := 151) (pc' := 155) rfl (hb hby at_151) (by decide) (by decide) ?_
        exact kt
      · refine ⟨T28, X28, e28, fun t kt => ?_⟩
        subst hv29
        simp only [if_neg hc31] at kt
        show Steps _ _ _ (T28.setTop (mkF m 147 #[vI p1, vI p2, vI p3, vI 3, vI ((p3 &&& (2147483647 : Int32)) % (3 : Int32)), vI v2, vR s_IFNULL, .unset] [iI 2, iI v2])) _
        refine XS.icmpYes X28.here hx rfl (pc0 := 147) (pc' := 154) rfl (hb hby at_147) rfl (feq hc31).2 (by decide) (by decide) ?_
        show Steps _ _ _ (T28.setTop (mkF m 154 #[vI p1, vI p2, vI p3, vI 3, vI ((p3 &&& (2147483647 : Int32)) % (3 : Int32)), vI v2, vR s_IFNULL, .unset] [])) _
        refine XS.iconst X28.here hx rfl (hb hby at_154) ?_
        exact kt
    obtain ⟨cq32, kq32, q32a, q32b, q32c⟩ := isOf hZ e30 E_IFNULL
    obtain ⟨_, _, ⟨T32, L32, k32, n32⟩, -, X32, ⟨Lc32, hQ32, l32, y32, z32⟩, st32⟩ := X30.virtualBack hx (y := (⟨"com/example/nullwise/nullwise/Function", "takes", "(I)Z"⟩ : MethodName)) (z := (⟨"com/example/nullwise/nullwise/Function", "takes", "(I)Z"⟩ : MethodName)) hown (mvT hZ (hw _ (List.mem_of_getElem? (i := 4) rfl))) (mvT hZ (hw _ (List.mem_of_getElem? (i := 5) rfl))) (notFace_of_selects (args := #[]) (mvT hZ (hw _ (List.mem_of_getElem? (i := 7) rfl)))) (mvT hZ (hw _ (List.mem_of_getElem? (i := 7) rfl))) (mvT hZ (hw _ (List.mem_of_getElem? (i := 6) rfl))) (by decide) (backOf (W := 0) (rm1_3 l Z a0 hw [] v2 s_ABS s_RANGE s_NVL2 s_ATLEASTNNONNULLS s_CONCAT s_IFNULL s_NULLIF s_COALESCE h0 S_ABS E_ABS F_fewestArguments_ABS F_mostArguments_ABS S_RANGE E_RANGE F_fewestArguments_RANGE F_mostArguments_RANGE S_NVL2 E_NVL2 F_fewestArguments_NVL2 S_ATLEASTNNONNULLS E_ATLEASTNNONNULLS F_fewestArguments_ATLEASTNNONNULLS S_CONCAT E_CONCAT F_fewestArguments_CONCAT F_mostArguments_CONCAT S_IFNULL E_IFNULL F_fewestArguments_IFNULL F_mostArguments_IFNULL S_NULLIF E_NULLIF F_fewestArguments_NULLIF F_mostArguments_NULLIF S_COALESCE E_COALESCE F_fewestArguments_COALESCE F_mostArguments_COALESCE F_mostArguments_ATLEASTNNONNULLS F_mostArguments_NVL2) hZ (hw _ (List.mem_of_getElem? (i := 8) rfl)) (hw _ (List.mem_of_getElem? (i := 2) rfl)) (by decide) (by decide)) q32a q32c (g := (mkF m 259 #[vI p1, vI p2, vI p3, vI 3, vI ((p3 &&& (2147483647 : Int32)) % (3 : Int32)), vI v2, vR s_IFNULL, vI v29] [iI v2, iR s_IFNULL])) rfl (by rw [hml]; rfl) (Steps.refl _) (argsL := [(.int v2)]) (rest := []) (lenOf pd_0 rfl) rfl (by show 2 * 0 + _ ≤ _; exact Nat.le_of_eq rfl) (hb hby at_259) (fun _ _ => ⟨rfl, e30, (by decide : 0 + 0 ≤ _), (by decide : 0 + 0 ≤ _)⟩)
    dsimp only [Pt.U, Pt.locs, Pt.cells, Pt.slots] at X32 l32 y32 z32 st32 hQ32
    subst l32 y32 z32
    obtain ⟨rfl, rfl, e32⟩ := hQ32
    try rw [List.append_nil] at X32
    have hh33 : (own_tk_3 v2) = v29 := (by rw [hv29]; exact own_eq_3 _)
    obtain ⟨fs, hr, hrun, hended, hW, hsame⟩ := X32.leave (v := some (.int (1 : Int32))) (fun h => by rw [Bd.returns] at h; cases h)
    refine ⟨_, _, pre7 _ ?_, hrun, hended, _, _, rfl, ?_, ⟨_, rfl⟩, hW, hsame.mono (by decide) (by decide)⟩
    · show Steps _ _ _ (T3.setTop (mkF m 52 #[vI p1, vI p2, vI p3, vI 3, vI ((p3 &&& (2147483647 : Int32)) % (3 : Int32)), vI v2, .unset, .unset] [])) _
      refine XS.iloadN X3.here hx rfl (hb hby at_52) rfl ?_
      show Steps _ _ _ (T3.setTop (mkF m 53 #[vI p1, vI p2, vI p3, vI 3, vI ((p3 &&& (2147483647 : Int32)) % (3 : Int32)), vI v2, .unset, .unset] [iI 3])) _
      refine XS.ifYes X3.here hx rfl (pc0 := 53) (pc' := 77) rfl (hb hby at_53) rfl ((if0 _ _).trans (feq (by decide : ¬ ((3 : Int32) = (0 : Int32)))).2) (by decide) (by decide) ?_
      show Steps _ _ _ (T3.setTop (mkF m 77 #[vI p1, vI p2, vI p3, vI 3, vI ((p3 &&& (2147483647 : Int32)) % (3 : Int32)), vI v2, .unset, .unset] [])) _
      refine XS.iloadN X3.here hx rfl (hb hby at_77) rfl ?_
      show Steps _ _ _ (T3.setTop (mkF m 78 #[vI p1, vI p2, vI p3, vI 3, vI ((p3 &&& (2147483647 : Int32)) % (3 : Int32)), vI v2, .unset, .unset] [iI 3])) _
      refine XS.iconst X3.here hx rfl (hb hby at_78) ?_
      show Steps _ _ _ (T3.setTop (mkF m 79 #[vI p1, vI p2, vI p3, vI 3, vI ((p3 &&& (2147483647 : Int32)) % (3 : Int32)), vI v2, .unset, .unset] [iI 1, iI 3])) _
      refine XS.icmpYes X3.here hx rfl (pc0 := 79) (pc' := 109) rfl (hb hby at_79) rfl (feq (by decide : ¬ ((3 : Int32) = (1 : Int32)))).2 (by decide) (by decide) ?_
      show Steps _ _ _ (T3.setTop (mkF m 109 #[vI p1, vI p2, vI p3, vI 3, vI ((p3 &&& (2147483647 : Int32)) % (3 : Int32)), vI v2, .unset, .unset] [])) _
      refine XS.iloadN X3.here hx rfl (hb hby at_109) rfl ?_
      show Steps _ _ _ (T3.setTop (mkF m 110 #[vI p1, vI p2, vI p3, vI 3, vI ((p3 &&& (2147483647 : Int32)) % (3 : Int32)), vI v2, .unset, .unset] [iI 3])) _
      refine XS.iconst X3.here hx rfl (hb hby at_110) ?_
      show Steps _ _ _ (T3.setTop (mkF m 111 #[vI p1, vI p2, vI p3, vI 3, vI ((p3 &&& (2147483647 : Int32)) % (3 : Int32)), vI v2, .unset, .unset] [iI 2, iI 3])) _
      refine XS.icmpYes X3.here hx rfl (pc0 := 111) (pc' := 134) rfl (hb hby at_111) rfl (feq (by decide : ¬ ((3 : Int32) = (2 : Int32)))).2 (by decide) (by decide) ?_
      show Steps _ _ _ (T3.setTop (mkF m 134 #[vI p1, vI p2, vI p3, vI 3, vI ((p3 &&& (2147483647 : Int32)) % (3 : Int32)), vI v2, .unset, .unset] [])) _
      refine XS.iloadN X3.here hx rfl (hb hby at_134) rfl ?_
      show Steps _ _ _ (T3.setTop (mkF m 135 #[vI p1, vI p2, vI p3, vI 3, vI ((p3 &&& (2147483647 : Int32)) % (3 : Int32)), vI v2, .unset, .unset] [iI 3])) _
      refine XS.iconst X3.here hx rfl (hb hby at_135) ?_
      show Steps _ _ _ (T3.setTop (mkF m 136 #[vI p1, vI p2, vI p3, vI 3, vI ((p3 &&& (2147483647 : Int32)) % (3 : Int32)), vI v2, .unset, .unset] [iI 3, iI 3])) _
      refine XS.icmpNo X3.here hx rfl (hb hby at_136) rfl (teq (by decide : (3 : Int32) = (3 : Int32))).2 ?_
      show Steps _ _ _ (T3.setTop (mkF m 139 #[vI p1, vI p2, vI p3, vI 3, vI ((p3 &&& (2147483647 : Int32)) % (3 : Int32)), vI v2, .unset, .unset] [])) _
      refine st28 _ ?_
      show Steps _ _ _ (T28.setTop (mkF m 142 #[vI p1, vI p2, vI p3, vI 3, vI ((p3 &&& (2147483647 : Int32)) % (3 : Int32)), vI v2, .unset, .unset] [iR s_IFNULL])) _
      refine XS.astore X28.here hx rfl (hb hby at_142) rfl rfl (l' := #[vI p1, vI p2, vI p3, vI 3, vI ((p3 &&& (2147483647 : Int32)) % (3 : Int32)), vI v2, vR s_IFNULL, .unset]) rfl ?_
      show Steps _ _ _ (T28.setTop (mkF m 144 #[vI p1, vI p2, vI p3, vI 3, vI ((p3 &&& (2147483647 : Int32)) % (3 : Int32)), vI v2, vR s_IFNULL, .unset] [])) _
      refine XS.iload X28.here hx rfl (hb hby at_144) rfl ?_
      show Steps _ _ _ (T28.setTop (mkF m 146 #[vI p1, vI p2, vI p3, vI 3, vI ((p3 &&& (2147483647 : Int32)) % (3 : Int32)), vI v2, vR s_IFNULL, .unset] [iI v2])) _
      refine XS.iconst X28.here hx rfl (hb hby at_146) ?_
      show Steps _ _ _ (T28.setTop (mkF m 147 #[vI p1, vI p2, vI p3, vI 3, vI ((p3 &&& (2147483647 : Int32)) % (3 : Int32)), vI v2, vR s_IFNULL, .unset] [iI 2, iI v2])) _
      refine st30 _ ?_
      show Steps _ _ _ (T30.setTop (mkF m 155 #[vI p1, vI p2, vI p3, vI 3, vI ((p3 &&& (2147483647 : Int32)) % (3 : Int32)), vI v2, vR s_IFNULL, .unset] [iI v29])) _
      refine XS.istore X30.here hx rfl (hb hby at_155) rfl (l' := #[vI p1, vI p2, vI p3, vI 3, vI ((p3 &&& (2147483647 : Int32)) % (3 : Int32)), vI v2, vR s_IFNULL, vI v29]) rfl ?_
      show Steps _ _ _ (T30.setTop (mkF m 157 #[vI p1, vI p2, vI p3, vI 3, vI ((p3 &&& (2147483647 : Int32)) % (3 : Int32)), vI v2, vR s_IFNULL, vI v29] [])) _
      refine XS.goto X30.here hx rfl (pc0 := 157) (pc' := 255) rfl (hb hby at_157) (by decide) (by decide) ?_
      show Steps _ _ _ (T30.setTop (mkF m 255 #[vI p1, vI p2, vI p3, vI 3, vI ((p3 &&& (2147483647 : Int32)) % (3 : Int32)), vI v2, vR s_IFNULL, vI v29] [])) _
      refine XS.aload X30.here hx rfl (hb hby at_255) rfl rfl ?_
      show Steps _ _ _ (T30.setTop (mkF m 257 #[vI p1, vI p2, vI p3, vI 3, vI ((p3 &&& (2147483647 : Int32)) % (3 : Int32)), vI v2, vR s_IFNULL, vI v29] [iR s_IFNULL])) _
      refine XS.iload X30.here hx rfl (hb hby at_257) rfl ?_
      show Steps _ _ _ (T30.setTop (mkF m 259 #[vI p1, vI p2, vI p3, vI 3, vI ((p3 &&& (2147483647 : Int32)) % (3 : Int32)), vI v2, vR s_IFNULL, vI v29] [iI v2, iR s_IFNULL])) _
      refine st32.trans ?_
      show Steps _ _ _ (T32.setTop (mkF m 262 #[vI p1, vI p2, vI p3, vI 3, vI ((p3 &&& (2147483647 : Int32)) % (3 : Int32)), vI v2, vR s_IFNULL, vI v29] [iI (own_tk_3 v2)])) _
      refine XS.iload X32.here hx rfl (hb hby at_262) rfl ?_
      show Steps _ _ _ (T32.setTop (mkF m 264 #[vI p1, vI p2, vI p3, vI 3, vI ((p3 &&& (2147483647 : Int32)) % (3 : Int32)), vI v2, vR s_IFNULL, vI v29] [iI v29, iI (own_tk_3 v2)])) _
      refine XS.icmpNo X32.here hx rfl (hb hby at_264) rfl (teq hh33).2 ?_
      show Steps _ _ _ (T32.setTop (mkF m 267 #[vI p1, vI p2, vI p3, vI 3, vI ((p3 &&& (2147483647 : Int32)) % (3 : Int32)), vI v2, vR s_IFNULL, vI v29] [])) _
      refine XS.iconst X32.here hx rfl (hb hby at_267) ?_
      show Steps _ _ _ (T32.setTop (mkF m 268 #[vI p1, vI p2, vI p3, vI 3, vI ((p3 &&& (2147483647 : Int32)) % (3 : Int32)), vI v2, vR s_IFNULL, vI v29] [iI 1])) _
      refine XS.goto X32.here hx rfl (pc0 := 268) (pc' := 272) rfl (hb hby at_268) (by decide) (by decide) ?_
      show Steps _ _ _ (T32.setTop (mkF m 272 #[vI p1, vI p2, vI p3, vI 3, vI ((p3 &&& (2147483647 : Int32)) % (3 : Int32)), vI v2, vR s_IFNULL, vI v29] [iI 1])) _
      exact retN X32 hx (t := .boolean) Bd.returns (by simp) (hb hby at_272) hr
    · show Q0 Z p1 p2 p3 s_ABS s_RANGE s_NVL2 s_ATLEASTNNONNULLS s_CONCAT s_IFNULL s_NULLIF s_COALESCE h0 _ T32.heap _
      rw [e32]
      exact ⟨rfl, rfl, rfl⟩
  · obtain ⟨T34, X34, e34, st34⟩ := getS2 X3 hx hZ hown (host := "") (Or.inl (hw _ (List.mem_of_getElem? (i := 15) rfl))) Via.refl e3 S_NVL2 (g := (mkF m 165 #[vI p1, vI p2, vI p3, vI 4, vI ((p3 &&& (2147483647 : Int32)) % (3 : Int32)), vI v2, .unset, .unset] [])) rfl (hb hby at_165)
    obtain ⟨v35, hv35⟩ : ∃ z : Int32, z = (if v2 = (3 : Int32) then (1 : Int32) else (0 : Int32)) := ⟨_, rfl⟩
    obtain ⟨T36, X36, e36, st36⟩ : own_Mid X34 h0 (mkF m 173 #[vI p1, vI p2, vI p3, vI 4, vI ((p3 &&& (2147483647 : Int32)) % (3 : Int32)), vI v2, vR s_NVL2, .unset] [iI 3, iI v2]) (mkF m 181 #[vI p1, vI p2, vI p3, vI 4, vI ((p3 &&& (2147483647 : Int32)) % (3 : Int32)), vI v2, vR s_NVL2, .unset] [iI v35]) := by
      by_cases hc37 : v2 = (3 : Int32)
      · refine ⟨T34, X34, e34, fun t kt => ?_⟩
        subst hv35
        simp only [if_pos hc37] at kt
        show Steps _ _ _ (T34.setTop (mkF m 173 #[vI p1, vI p2, vI p3, vI 4, vI ((p3 &&& (2147483647 : Int32)) % (3 : Int32)), vI v2, vR s_NVL2, .unset] [iI 3, iI v2])) _
        refine XS.icmpNo X34.here hx rfl (hb hby at_173) rfl (teq hc37).2 ?_
        show Steps _ _ _ (T34.setTop (mkF m 176 #[vI p1, vI p2, vI p3, vI 4, vI ((p3 &&& (2147483647 : Int32)) % (3 : Int32)), vI v2, vR s_NVL2, .unset] [])) _
        refine XS.iconst X34.here hx rfl (hb hby at_176) ?_
        show Steps _ _ _ (T34.setTop (mkF m 177 #[vI p1, vI p2, vI p3, vI 4, vI ((p3 &&& (2147483647 : Int32)) % (3 : Int32)), vI v2, vR s_NVL2, .unset] [iI 1])) _
        refine XS.goto X34.here hx rfl (pc0 := 177) (pc' := 181) rfl (hb hby at_177) (by decide) (by decide) ?_
        exact kt
      · refine ⟨T34, X34, e34, fun t kt => ?_⟩
        subst hv35
        simp only [if_neg hc37] at kt
        show Steps _ _ _ (T34.setTop (mkF m 173 #[vI p1, vI p2, vI p3, vI 4, vI ((p3 &&& (2147483647 : Int32)) % (3 : Int32)), vI v2, vR s_NVL2, .unset] [iI 3, iI v2])) _
        refine XS.icmpYes X34.here hx rfl (pc0 := 173) (pc' := 180) rfl (hb hby at_173) rfl (feq hc37).2 (by decide) (by decide) ?_
        show Steps _ _ _ (T34.setTop (mkF m 180 #[vI p1, vI p2, vI p3, vI 4, vI ((p3 &&& (2147483647 : Int32)) % (3 : Int32)), vI v2, vR s_NVL2, .unset] [])) _
        refine XS.iconst X34.here hx rfl (hb hby at_180) ?_
        exact kt
    obtain ⟨cq38, kq38, q38a, q38b, q38c⟩ := isOf hZ e36 E_NVL2
    obtain ⟨_, _, ⟨T38, L38, k38, n38⟩, -, X38, ⟨Lc38, hQ38, l38, y38, z38⟩, st38⟩ := X36.virtualBack hx (y := (⟨"com/example/nullwise/nullwise/Function", "takes", "(I)Z"⟩ : MethodName)) (z := (⟨"com/example/nullwise/nullwise/Function", "takes", "(I)Z"⟩ : MethodName)) hown (mvT hZ (hw _ (List.mem_of_getElem? (i := 4) rfl))) (mvT hZ (hw _ (List.mem_of_getElem? (i := 5) rfl))) (notFace_of_selects (args := #[]) (mvT hZ (hw _ (List.mem_of_getElem? (i := 7) rfl)))) (mvT hZ (hw _ (List.mem_of_getElem? (i := 7) rfl))) (mvT hZ (hw _ (List.mem_of_getElem? (i := 6) rfl))) (by decide) (backOf (W := 0) (rm1_4 l Z a0 hw [] v2 s_ABS s_RANGE s_NVL2 s_ATLEASTNNONNULLS s_CONCAT s_IFNULL s_NULLIF s_COALESCE h0 S_ABS E_ABS F_fewestArguments_ABS F_mostArguments_ABS S_RANGE E_RANGE F_fewestArguments_RANGE F_mostArguments_RANGE S_NVL2 E_NVL2 F_fewestArguments_NVL2 S_ATLEASTNNONNULLS E_ATLEASTNNONNULLS F_fewestArguments_ATLEASTNNONNULLS S_CONCAT E_CONCAT F_fewestArguments_CONCAT F_mostArguments_CONCAT S_IFNULL E_IFNULL F_fewestArguments_IFNULL F_mostArguments_IFNULL S_NULLIF E_NULLIF F_fewestArguments_NULLIF F_mostArguments_NULLIF S_COALESCE E_COALESCE F_fewestArguments_COALESCE F_mostArguments_COALESCE F_mostArguments_ATLEASTNNONNULLS F_mostArguments_NVL2) hZ (hw _ (List.mem_of_getElem? (i := 8) rfl)) (hw _ (List.mem_of_getElem? (i := 2) rfl)) (by decide) (by decide)) q38a q38c (g := (mkF m 259 #[vI p1, vI p2, vI p3, vI 4, vI ((p3 &&& (2147483647 : Int32)) % (3 : Int32)), vI v2, vR s_NVL2, vI v35] [iI v2, iR s_NVL2])) rfl (by rw [hml]; rfl) (Steps.refl _) (argsL := [(.int v2)]) (rest := []) (lenOf pd_0 rfl) rfl (by show 2 * 0 + _ ≤ _; exact Nat.le_of_eq rfl) (hb hby at_259) (fun _ _ => ⟨rfl, e36, (by decide : 0 + 0 ≤ _), (by decide : 0 + 0 ≤ _)⟩)
    dsimp only [Pt.U, Pt.locs, Pt.cells, Pt.slots] at X38 l38 y38 z38 st38 hQ38
    subst l38 y38 z38
    obtain ⟨rfl, rfl, e38⟩ := hQ38
    try rw [List.append_nil] at X38
    have hh39 : (own_tk_4 v2) = v35 := (by rw [hv35]; exact own_eq_4 _)
    obtain ⟨fs, hr, hrun, hended, hW, hsame⟩ := X38.leave (v := some (.int (1 : Int32))) (fun h => by rw [Bd.returns] at h; cases h)
    refine ⟨_, _, pre7 _ ?_, hrun, hended, _, _, rfl, ?_, ⟨_, rfl⟩, hW, hsame.mono (by decide) (by decide)⟩
    · show Steps _ _ _ (T3.setTop (mkF m 52 #[vI p1, vI p2, vI p3, vI 4, vI ((p3 &&& (2147483647 : Int32)) % (3 : Int32)), vI v2, .unset, .unset] [])) _
      refine XS.iloadN X3.here hx rfl (hb hby at_52) rfl ?_
      show Steps _ _ _ (T3.setTop (mkF m 53 #[vI p1, vI p2, vI p3, vI 4, vI ((p3 &&& (2147483647 : Int32)) % (3 : Int32)), vI v2, .unset, .unset] [iI 4])) _
      refine XS.ifYes X3.here hx rfl (pc0 := 53) (pc' := 77) rfl (hb hby at_53) rfl ((if0 _ _).trans (feq (by decide : ¬ ((4 : Int32) = (0 : Int32)))).2) (by decide) (by decide) ?_
      show Steps _ _ _ (T3.setTop (mkF m 77 #[vI p1, vI p2, vI p3, vI 4, vI ((p3 &&& (2147483647 : Int32)) % (3 : Int32)), vI v2, .unset, .unset] [])) _
      refine XS.iloadN X3.here hx rfl (hb hby at_77) rfl ?_
      show Steps _ _ _ (T3.setTop (mkF m 78 #[vI p1, vI p2, vI p3, vI 4, vI ((p3 &&& (2147483647 : Int32)) % (3 : Int32)), vI v2, .unset, .unset] [iI 4])) _
      refine XS.iconst X3.here hx rfl (hb hby at_78) ?_
      show Steps _ _ _ (T3.setTop (mkF m 79 #[vI p1, vI p2, vI p3, vI 4, vI ((p3 &&& (2147483647 : Int32)) % (3 : Int32)), vI v2, .unset, .unset] [iI 1, iI 4])) _
      refine XS.icmpYes X3.here hx rfl (pc0 := 79) (pc' := 109) rfl (hb hby at_79) rfl (feq (by decide : ¬ ((4 : Int32) = (1 : Int32)))).2 (by decide) (by decide) ?_
      show Steps _ _ _ (T3.setTop (mkF m 109 #[vI p1, vI p2, vI p3, vI 4, vI ((p3 &&& (2147483647 : Int32)) % (3 : Int32)), vI v2, .unset, .unset] [])) _
      refine XS.iloadN X3.here hx rfl (hb hby at_109) rfl ?_
      show Steps _ _ _ (T3.setTop (mkF m 110 #[vI p1, vI p2, vI p3, vI 4, vI ((p3 &&& (2147483647 : Int32)) % (3 : Int32)), vI v2, .unset, .unset] [iI 4])) _
      refine XS.iconst X3.here hx rfl (hb hby at_110) ?_
      show Steps _ _ _ (T3.setTop (mkF m 111 #[vI p1, vI p2, vI p3, vI 4, vI ((p3 &&& (2147483647 : Int32)) % (3 : Int32)), vI v2, .unset, .unset] [iI 2, iI 4])) _
      refine XS.icmpYes X3.here hx rfl (pc0 := 111) (pc' := 134) rfl (hb hby at_111) rfl (feq (by decide : ¬ ((4 : Int32) = (2 : Int32)))).2 (by decide) (by decide) ?_
      show Steps _ _ _ (T3.setTop (mkF m 134 #[vI p1, vI p2, vI p3, vI 4, vI ((p3 &&& (2147483647 : Int32)) % (3 : Int32)), vI v2, .unset, .unset] [])) _
      refine XS.iloadN X3.here hx rfl (hb hby at_134) rfl ?_
      show Steps _ _ _ (T3.setTop (mkF m 135 #[vI p1, vI p2, vI p3, vI 4, vI ((p3 &&& (2147483647 : Int32)) % (3 : Int32)), vI v2, .unset, .unset] [iI 4])) _
      refine XS.iconst X3.here hx rfl (hb hby at_135) ?_
      show Steps _ _ _ (T3.setTop (mkF m 136 #[vI p1, vI p2, vI p3, vI 4, vI ((p3 &&& (2147483647 : Int32)) % (3 : Int32)), vI v2, .unset, .unset] [iI 3, iI 4])) _
      refine XS.icmpYes X3.here hx rfl (pc0 := 136) (pc' := 160) rfl (hb hby at_136) rfl (feq (by decide : ¬ ((4 : Int32) = (3 : Int32)))).2 (by decide) (by decide) ?_
      show Steps _ _ _ (T3.setTop (mkF m 160 #[vI p1, vI p2, vI p3, vI 4, vI ((p3 &&& (2147483647 : Int32)) % (3 : Int32)), vI v2, .unset, .unset] [])) _
      refine XS.iloadN X3.here hx rfl (hb hby at_160) rfl ?_
      show Steps _ _ _ (T3.setTop (mkF m 161 #[vI p1, vI p2, vI p3, vI 4, vI ((p3 &&& (2147483647 : Int32)) % (3 : Int32)), vI v2, .unset, .unset] [iI 4])) _
      refine XS.iconst X3.here hx rfl (hb hby at_161) ?_
      show Steps _ _ _ (T3.setTop (mkF m 162 #[vI p1, vI p2, vI p3, vI 4, vI ((p3 &&& (2147483647 : Int32)) % (3 : Int32)), vI v2, .unset, .unset] [iI 4, iI 4])) _
      refine XS.icmpNo X3.here hx rfl (hb hby at_162) rfl (teq (by decide : (4 : Int32) = (4 : Int32))).2 ?_
      show Steps _ _ _ (T3.setTop (mkF m 165 #[vI p1, vI p2, vI p3, vI 4, vI ((p3 &&& (2147483647 : Int32)) % (3 : Int32)), vI v2, .unset, .unset] [])) _
      refine st34 _ ?_
      show Steps _ _ _ (T34.setTop (mkF m 168 #[vI p1, vI p2, vI p3, vI 4, vI ((p3 &&& (2147483647 : Int32)) % (3 : Int32)), vI v2, .unset, .unset] [iR s_NVL2])) _
      refine XS.astore X34.here hx rfl (hb hby at_168) rfl rfl (l' := #[vI p1, vI p2, vI p3, vI 4, vI ((p3 &&& (2147483647 : Int32)) % (3 : Int32)), vI v2, vR s_NVL2, .unset]) rfl ?_
      show Steps _ _ _ (T34.setTop (mkF m 170 #[vI p1, vI p2, vI p3, vI 4, vI ((p3 &&& (2147483647 : Int32)) % (3 : Int32)), vI v2, vR s_NVL2, .unset] [])) _
      refine XS.iload X34.here hx rfl (hb hby at_170) rfl ?_
      show Steps _ _ _ (T34.setTop (mkF m 172 #[vI p1, vI p2, vI p3, vI 4, vI ((p3 &&& (2147483647 : Int32)) % (3 : Int32)), vI v2, vR s_NVL2, .unset] [iI v2])) _
      refine XS.iconst X34.here hx rfl (hb hby at_172) ?_
      show Steps _ _ _ (T34.setTop (mkF m 173 #[vI p1, vI p2, vI p3, vI 4, vI ((p3 &&& (2147483647 : Int32)) % (3 : Int32)), vI v2, vR s_NVL2, .unset] [iI 3, iI v2])) _
      refine st36 _ ?_
      show Steps _ _ _ (T36.setTop (mkF m 181 #[vI p1, vI p2, vI p3, vI 4, vI ((p3 &&& (2147483647 : Int32)) % (3 : Int32)), vI v2, vR s_NVL2, .unset] [iI v35])) _
      refine XS.istore X36.here hx rfl (hb hby at_181) rfl (l' := #[vI p1, vI p2, vI p3, vI 4, vI ((p3 &&& (2147483647 : Int32)) % (3 : Int32)), vI v2, vR s_NVL2, vI v35]) rfl ?_
      show Steps _ _ _ (T36.setTop (mkF m 183 #[vI p1, vI p2, vI p3, vI 4, vI ((p3 &&& (2147483647 : Int32)) % (3 : Int32)), vI v2, vR s_NVL2, vI v35] [])) _
      refine XS.goto X36.here hx rfl (pc0 := 183) (pc' := 255) rfl (hb hby at_183) (by decide) (by decide) ?_
      show Steps _ _ _ (T36.setTop (mkF m 255 #[vI p1, vI p2, vI p3, vI 4, vI ((p3 &&& (2147483647 : Int32)) % (3 : Int32)), vI v2, vR s_NVL2, vI v35] [])) _
      refine XS.aload X36.here hx rfl (hb hby at_255) rfl rfl ?_
      show Steps _ _ _ (T36.setTop (mkF m 257 #[vI p1, vI p2, vI p3, vI 4, vI ((p3 &&& (2147483647 : Int32)) % (3 : Int32)), vI v2, vR s_NVL2, vI v35] [iR s_NVL2])) _
      refine XS.iload X36.here hx rfl (hb hby at_257) rfl ?_
      show Steps _ _ _ (T36.setTop (mkF m 259 #[vI p1, vI p2, vI p3, vI 4, vI ((p3 &&& (2147483647 : Int32)) % (3 : Int32)), vI v2, vR s_NVL2, vI v35] [iI v2, iR s_NVL2])) _
      refine st38.trans ?_
      show Steps _ _ _ (T38.setTop (mkF m 262 #[vI p1, vI p2, vI p3, vI 4, vI ((p3 &&& (2147483647 : Int32)) % (3 : Int32)), vI v2, vR s_NVL2, vI v35] [iI (own_tk_4 v2)])) _
      refine XS.iload X38.here hx rfl (hb hby at_262) rfl ?_
      show Steps _ _ _ (T38.setTop (mkF m 264 #[vI p1, vI p2, vI p3, vI 4, vI ((p3 &&& (2147483647 : Int32)) % (3 : Int32)), vI v2, vR s_NVL2, vI v35] [iI v35, iI (own_tk_4 v2)])) _
      refine XS.icmpNo X38.here hx rfl (hb hby at_264) rfl (teq hh39).2 ?_
      show Steps _ _ _ (T38.setTop (mkF m 267 #[vI p1, vI p2, vI p3, vI 4, vI ((p3 &&& (2147483647 : Int32)) % (3 : Int32)), vI v2, vR s_NVL2, vI v35] [])) _
      refine XS.iconst X38.here hx rfl (hb hby at_267) ?_
      show Steps _ _ _ (T38.setTop (mkF m 268 #[vI p1, vI p2, vI p3, vI 4, vI ((p3 &&& (2147483647 : Int32)) % (3 : Int32)), vI v2, vR s_NVL2, vI v35] [iI 1])) _
      refine XS.goto X38.here hx rfl (pc0 := 268) (pc' := 272) rfl (hb hby at_268) (by decide) (by decide) ?_
      show Steps _ _ _ (T38.setTop (mkF m 272 #[vI p1, vI p2, vI p3, vI 4, vI ((p3 &&& (2147483647 : Int32)) % (3 : Int32)), vI v2, vR s_NVL2, vI v35] [iI 1])) _
      exact retN X38 hx (t := .boolean) Bd.returns (by simp) (hb hby at_272) hr
    · show Q0 Z p1 p2 p3 s_ABS s_RANGE s_NVL2 s_ATLEASTNNONNULLS s_CONCAT s_IFNULL s_NULLIF s_COALESCE h0 _ T38.heap _
      rw [e38]
      exact ⟨rfl, rfl, rfl⟩
  · obtain ⟨T40, X40, e40, st40⟩ := getS2 X3 hx hZ hown (host := "") (Or.inl (hw _ (List.mem_of_getElem? (i := 23) rfl))) Via.refl e3 S_NULLIF (g := (mkF m 191 #[vI p1, vI p2, vI p3, vI 5, vI ((p3 &&& (2147483647 : Int32)) % (3 : Int32)), vI v2, .unset, .unset] [])) rfl (hb hby at_191)
    obtain ⟨v41, hv41⟩ : ∃ z : Int32, z = (if v2 = (2 : Int32) then (1 : Int32) else (0 : Int32)) := ⟨_, rfl⟩
    obtain ⟨T42, X42, e42, st42⟩ : own_Mid X40 h0 (mkF m 199 #[vI p1, vI p2, vI p3, vI 5, vI ((p3 &&& (2147483647 : Int32)) % (3 : Int32)), vI v2, vR s_NULLIF, .unset] [iI 2, iI v2]) (mkF m 207 #[vI p1, vI p2, vI p3, vI 5, vI ((p3 &&& (2147483647 : Int32)) % (3 : Int32)), vI v2, vR s_NULLIF, .unset] [iI v41]) := by
      by_cases hc43 : v2 = (2 : Int32)
      · refine ⟨T40, X40, e40, fun t kt => ?_⟩
        subst hv41
        simp only [if_pos hc43] at kt
        show Steps _ _ _ (T40.setTop (mkF m 199 #[vI p1, vI p2, vI p3, vI 5, vI ((p3 &&& (2147483647 : Int32)) % (3 : Int32)), vI v2, vR s_NULLIF, .unset] [iI 2, iI v2])) _
        refine XS.icmpNo X40.here hx rfl (hb hby at_199) rfl (teq hc43).2 ?_
        show Steps _ _ _ (T40.setTop (mkF m 202 #[vI p1, vI p2, vI p3, vI 5, vI ((p3 &&& (2147483647 : Int32)) % (3 : Int32)), vI v2, vR s_NULLIF, .unset] [])) _
        refine XS.iconst X40.here hx rfl (hb hby at_202) ?_
        show Steps _ _ _ (T40.setTop (mkF m 203 #[vI p1, vI p2, vI p3, vI 5, vI ((p3 &&& (2147483647 : Int32)) % (3 : Int32)), vI v2, vR s_NULLIF, .unset] [iI 1])) _
        refine XS.goto X40.here hx rfl (pc0 := 203) (pc' := 207) rfl (hb hby at_203) (by decide) (by decide) ?_
        exact kt
      · refine ⟨T40, X40, e40, fun t kt => ?_⟩
        subst hv41
        simp only [if_neg hc43] at kt
        show Steps _ _ _ (T40.setTop (mkF m 199 #[vI p1, vI p2, vI p3, vI 5, vI ((p3 &&& (2147483647 : Int32)) % (3 : Int32)), vI v2, vR s_NULLIF, .unset] [iI 2, iI v2])) _
        refine XS.icmpYes X40.here hx rfl (pc0 := 199) (pc' := 206) rfl (hb hby at_199) rfl (feq hc43).2 (by decide) (by decide) ?_
        show Steps _ _ _ (T40.setTop (mkF m 206 #[vI p1, vI p2, vI p3, vI 5, vI ((p3 &&& (2147483647 : Int32)) % (3 : Int32)), vI v2, vR s_NULLIF, .unset] [])) _
        refine XS.iconst X40.here hx rfl (hb hby at_206) ?_
        exact kt
    obtain ⟨cq44, kq44, q44a, q44b, q44c⟩ := isOf hZ e42 E_NULLIF
    obtain ⟨_, _, ⟨T44, L44, k44, n44⟩, -, X44, ⟨Lc44, hQ44, l44, y44, z44⟩, st44⟩ := X42.virtualBack hx (y := (⟨"com/example/nullwise/nullwise/Function", "takes", "(I)Z"⟩ : MethodName)) (z := (⟨"com/example/nullwise/nullwise/Function", "takes", "(I)Z"⟩ : MethodName)) hown (mvT hZ (hw _ (List.mem_of_getElem? (i := 4) rfl))) (mvT hZ (hw _ (List.mem_of_getElem? (i := 5) rfl))) (notFace_of_selects (args := #[]) (mvT hZ (hw _ (List.mem_of_getElem? (i := 7) rfl)))) (mvT hZ (hw _ (List.mem_of_getElem? (i := 7) rfl))) (mvT hZ (hw _ (List.mem_of_getElem? (i := 6) rfl))) (by decide) (backOf (W := 0) (rm1_5 l Z a0 hw [] v2 s_ABS s_RANGE s_NVL2 s_ATLEASTNNONNULLS s_CONCAT s_IFNULL s_NULLIF s_COALESCE h0 S_ABS E_ABS F_fewestArguments_ABS F_mostArguments_ABS S_RANGE E_RANGE F_fewestArguments_RANGE F_mostArguments_RANGE S_NVL2 E_NVL2 F_fewestArguments_NVL2 S_ATLEASTNNONNULLS E_ATLEASTNNONNULLS F_fewestArguments_ATLEASTNNONNULLS S_CONCAT E_CONCAT F_fewestArguments_CONCAT F_mostArguments_CONCAT S_IFNULL E_IFNULL F_fewestArguments_IFNULL F_mostArguments_IFNULL S_NULLIF E_NULLIF F_fewestArguments_NULLIF F_mostArguments_NULLIF S_COALESCE E_COALESCE F_fewestArguments_COALESCE F_mostArguments_COALESCE F_mostArguments_ATLEASTNNONNULLS F_mostArguments_NVL2) hZ (hw _ (List.mem_of_getElem? (i := 8) rfl)) (hw _ (List.mem_of_getElem? (i := 2) rfl)) (by decide) (by decide)) q44a q44c (g := (mkF m 259 #[vI p1, vI p2, vI p3, vI 5, vI ((p3 &&& (2147483647 : Int32)) % (3 : Int32)), vI v2, vR s_NULLIF, vI v41] [iI v2, iR s_NULLIF])) rfl (by rw [hml]; rfl) (Steps.refl _) (argsL := [(.int v2)]) (rest := []) (lenOf pd_0 rfl) rfl (by show 2 * 0 + _ ≤ _; exact Nat.le_of_eq rfl) (hb hby at_259) (fun _ _ => ⟨rfl, e42, (by decide : 0 + 0 ≤ _), (by decide : 0 + 0 ≤ _)⟩)
    dsimp only [Pt.U, Pt.locs, Pt.cells, Pt.slots] at X44 l44 y44 z44 st44 hQ44
    subst l44 y44 z44
    obtain ⟨rfl, rfl, e44⟩ := hQ44
    try rw [List.append_nil] at X44
    have hh45 : (own_tk_5 v2) = v41 := (by rw [hv41]; exact own_eq_5 _)
    obtain ⟨fs, hr, hrun, hended, hW, hsame⟩ := X44.leave (v := some (.int (1 : Int32))) (fun h => by rw [Bd.returns] at h; cases h)
    refine ⟨_, _, pre7 _ ?_, hrun, hended, _, _, rfl, ?_, ⟨_, rfl⟩, hW, hsame.mono (by decide) (by decide)⟩
    · show Steps _ _ _ (T3.setTop (mkF m 52 #[vI p1, vI p2, vI p3, vI 5, vI ((p3 &&& (2147483647 : Int32)) % (3 : Int32)), vI v2, .unset, .unset] [])) _
      refine XS.iloadN X3.here hx rfl (hb hby at_52) rfl ?_
      show Steps _ _ _ (T3.setTop (mkF m 53 #[vI p1, vI p2, vI p3, vI 5, vI ((p3 &&& (2147483647 : Int32)) % (3 : Int32)), vI v2, .unset, .unset] [iI 5])) _
      refine XS.ifYes X3.here hx rfl (pc0 := 53) (pc' := 77) rfl (hb hby at_53) rfl ((if0 _ _).trans (feq (by decide : ¬ ((5 : Int32) = (0 : Int32)))).2) (by decide) (by decide) ?_
      show Steps _ _ _ (T3.setTop (mkF m 77 #[vI p1, vI p2, vI p3, vI 5, vI ((p3 &&& (2147483647 : Int32)) % (3 : Int32)), vI v2, .unset, .unset] [])) _
      refine XS.iloadN X3.here hx rfl (hb hby at_77) rfl ?_
      show Steps _ _ _ (T3.setTop (mkF m 78 #[vI p1, vI p2, vI p3, vI 5, vI ((p3 &&& (2147483647 : Int32)) % (3 : Int32)), vI v2, .unset, .unset] [iI 5])) _
      refine XS.iconst X3.here hx rfl (hb hby at_78) ?_
      show Steps _ _ _ (T3.setTop (mkF m 79 #[vI p1, vI p2, vI p3, vI 5, vI ((p3 &&& (2147483647 : Int32)) % (3 : Int32)), vI v2, .unset, .unset] [iI 1, iI 5])) _
      refine XS.icmpYes X3.here hx rfl (pc0 := 79) (pc' := 109) rfl (hb hby at_79) rfl (feq (by decide : ¬ ((5 : Int32) = (1 : Int32)))).2 (by decide) (by decide) ?_
      show Steps _ _ _ (T3.setTop (mkF m 109 #[vI p1, vI p2, vI p3, vI 5, vI ((p3 &&& (2147483647 : Int32)) % (3 : Int32)), vI v2, .unset, .unset] [])) _
      refine XS.iloadN X3.here hx rfl (hb hby at_109) rfl ?_
      show Steps _ _ _ (T3.setTop (mkF m 110 #[vI p1, vI p2, vI p3, vI 5, vI ((p3 &&& (2147483647 : Int32)) % (3 : Int32)), vI v2, .unset, .unset] [iI 5])) _
      refine XS.iconst X3.here hx rfl (hb hby at_110) ?_
      show Steps _ _ _ (T3.setTop (mkF m 111 #[vI p1, vI p2, vI p3, vI 5, vI ((p3 &&& (2147483647 : Int32)) % (3 : Int32)), vI v2, .unset, .unset] [iI 2, iI 5])) _
      refine XS.icmpYes X3.here hx rfl (pc0 := 111) (pc' := 134) rfl (hb hby at_111) rfl (feq (by decide : ¬ ((5 : Int32) = (2 : Int32)))).2 (by decide) (by decide) ?_
      show Steps _ _ _ (T3.setTop (mkF m 134 #[vI p1, vI p2, vI p3, vI 5, vI ((p3 &&& (2147483647 : Int32)) % (3 : Int32)), vI v2, .unset, .unset] [])) _
      refine XS.iloadN X3.here hx rfl (hb hby at_134) rfl ?_
      show Steps _ _ _ (T3.setTop (mkF m 135 #[vI p1, vI p2, vI p3, vI 5, vI ((p3 &&& (2147483647 : Int32)) % (3 : Int32)), vI v2, .unset, .unset] [iI 5])) _
      refine XS.iconst X3.here hx rfl (hb hby at_135) ?_
      show Steps _ _ _ (T3.setTop (mkF m 136 #[vI p1, vI p2, vI p3, vI 5, vI ((p3 &&& (2147483647 : Int32)) % (3 : Int32)), vI v2, .unset, .unset] [iI 3, iI 5])) _
      refine XS.icmpYes X3.here hx rfl (pc0 := 136) (pc' := 160) rfl (hb hby at_136) rfl (feq (by decide : ¬ ((5 : Int32) = (3 : Int32)))).2 (by decide) (by decide) ?_
      show Steps _ _ _ (T3.setTop (mkF m 160 #[vI p1, vI p2, vI p3, vI 5, vI ((p3 &&& (2147483647 : Int32)) % (3 : Int32)), vI v2, .unset, .unset] [])) _
      refine XS.iloadN X3.here hx rfl (hb hby at_160) rfl ?_
      show Steps _ _ _ (T3.setTop (mkF m 161 #[vI p1, vI p2, vI p3, vI 5, vI ((p3 &&& (2147483647 : Int32)) % (3 : Int32)), vI v2, .unset, .unset] [iI 5])) _
      refine XS.iconst X3.here hx rfl (hb hby at_161) ?_
      show Steps _ _ _ (T3.setTop (mkF m 162 #[vI p1, vI p2, vI p3, vI 5, vI ((p3 &&& (2147483647 : Int32)) % (3 : Int32)), vI v2, .unset, .unset] [iI 4, iI 5])) _
      refine XS.icmpYes X3.here hx rfl (pc0 := 162) (pc' := 186) rfl (hb hby at_162) rfl (feq (by decide : ¬ ((5 : Int32) = (4 : Int32)))).2 (by decide) (by decide) ?_
      show Steps _ _ _ (T3.setTop (mkF m 186 #[vI p1, vI p2, vI p3, vI 5, vI ((p3 &&& (2147483647 : Int32)) % (3 : Int32)), vI v2, .unset, .unset] [])) _
      refine XS.iloadN X3.here hx rfl (hb hby at_186) rfl ?_
      show Steps _ _ _ (T3.setTop (mkF m 187 #[vI p1, vI p2, vI p3, vI 5, vI ((p3 &&& (2147483647 : Int32)) % (3 : Int32)), vI v2, .unset, .unset] [iI 5])) _
      refine XS.iconst X3.here hx rfl (hb hby at_187) ?_
      show Steps _ _ _ (T3.setTop (mkF m 188 #[vI p1, vI p2, vI p3, vI 5, vI ((p3 &&& (2147483647 : Int32)) % (3 : Int32)), vI v2, .unset, .unset] [iI 5, iI 5])) _
      refine XS.icmpNo X3.here hx rfl (hb hby at_188) rfl (teq (by decide : (5 : Int32) = (5 : Int32))).2 ?_
      show Steps _ _ _ (T3.setTop (mkF m 191 #[vI p1, vI p2, vI p3, vI 5, vI ((p3 &&& (2147483647 : Int32)) % (3 : Int32)), vI v2, .unset, .unset] [])) _
      refine st40 _ ?_
      show Steps _ _ _ (T40.setTop (mkF m 194 #[vI p1, vI p2, vI p3, vI 5, vI ((p3 &&& (2147483647 : Int32)) % (3 : Int32)), vI v2, .unset, .unset] [iR s_NULLIF])) _
      refine XS.astore X40.here hx rfl (hb hby at_194) rfl rfl (l' := #[vI p1, vI p2, vI p3, vI 5, vI ((p3 &&& (2147483647 : Int32)) % (3 : Int32)), vI v2, vR s_NULLIF, .unset]) rfl ?_
      show Steps _ _ _ (T40.setTop (mkF m 196 #[vI p1, vI p2, vI p3, vI 5, vI ((p3 &&& (2147483647 : Int32)) % (3 : Int32)), vI v2, vR s_NULLIF, .unset] [])) _
      refine XS.iload X40.here hx rfl (hb hby at_196) rfl ?_
      show Steps _ _ _ (T40.setTop (mkF m 198 #[vI p1, vI p2, vI p3, vI 5, vI ((p3 &&& (2147483647 : Int32)) % (3 : Int32)), vI v2, vR s_NULLIF, .unset] [iI v2])) _
      refine XS.iconst X40.here hx rfl (hb hby at_198) ?_
      show Steps _ _ _ (T40.setTop (mkF m 199 #[vI p1, vI p2, vI p3, vI 5, vI ((p3 &&& (2147483647 : Int32)) % (3 : Int32)), vI v2, vR s_NULLIF, .unset] [iI 2, iI v2])) _
      refine st42 _ ?_
      show Steps _ _ _ (T42.setTop (mkF m 207 #[vI p1, vI p2, vI p3, vI 5, vI ((p3 &&& (2147483647 : Int32)) % (3 : Int32)), vI v2, vR s_NULLIF, .unset] [iI v41])) _
      refine XS.istore X42.here hx rfl (hb hby at_207) rfl (l' := #[vI p1, vI p2, vI p3, vI 5, vI ((p3 &&& (2147483647 : Int32)) % (3 : Int32)), vI v2, vR s_NULLIF, vI v41]) rfl ?_
      show Steps _ _ _ (T42.setTop (mkF m 209 #[vI p1, vI p2, vI p3, vI 5, vI ((p3 &&& (2147483647 : Int32)) % (3 : Int32)), vI v2, vR s_NULLIF, vI v41] [])) _
      refine XS.goto X42.here hx rfl (pc0 := 209) (pc' := 255) rfl (hb hby at_209) (by decide) (by decide) ?_
      show Steps _ _ _ (T42.setTop (mkF m 255 #[vI p1, vI p2, vI p3, vI 5, vI ((p3 &&& (2147483647 : Int32)) % (3 : Int32)), vI v2, vR s_NULLIF, vI v41] [])) _
      refine XS.aload X42.here hx rfl (hb hby at_255) rfl rfl ?_
      show Steps _ _ _ (T42.setTop (mkF m 257 #[vI p1, vI p2, vI p3, vI 5, vI ((p3 &&& (2147483647 : Int32)) % (3 : Int32)), vI v2, vR s_NULLIF, vI v41] [iR s_NULLIF])) _
      refine XS.iload X42.here hx rfl (hb hby at_257) rfl ?_
      show Steps _ _ _ (T42.setTop (mkF m 259 #[vI p1, vI p2, vI p3, vI 5, vI ((p3 &&& (2147483647 : Int32)) % (3 : Int32)), vI v2, vR s_NULLIF, vI v41] [iI v2, iR s_NULLIF])) _
      refine st44.trans ?_
      show Steps _ _ _ (T44.setTop (mkF m 262 #[vI p1, vI p2, vI p3, vI 5, vI ((p3 &&& (2147483647 : Int32)) % (3 : Int32)), vI v2, vR s_NULLIF, vI v41] [iI (own_tk_5 v2)])) _
      refine XS.iload X44.here hx rfl (hb hby at_262) rfl ?_
      show Steps _ _ _ (T44.setTop (mkF m 264 #[vI p1, vI p2, vI p3, vI 5, vI ((p3 &&& (2147483647 : Int32)) % (3 : Int32)), vI v2, vR s_NULLIF, vI v41] [iI v41, iI (own_tk_5 v2)])) _
      refine XS.icmpNo X44.here hx rfl (hb hby at_264) rfl (teq hh45).2 ?_
      show Steps _ _ _ (T44.setTop (mkF m 267 #[vI p1, vI p2, vI p3, vI 5, vI ((p3 &&& (2147483647 : Int32)) % (3 : Int32)), vI v2, vR s_NULLIF, vI v41] [])) _
      refine XS.iconst X44.here hx rfl (hb hby at_267) ?_
      show Steps _ _ _ (T44.setTop (mkF m 268 #[vI p1, vI p2, vI p3, vI 5, vI ((p3 &&& (2147483647 : Int32)) % (3 : Int32)), vI v2, vR s_NULLIF, vI v41] [iI 1])) _
      refine XS.goto X44.here hx rfl (pc0 := 268) (pc' := 272) rfl (hb hby at_268) (by decide) (by decide) ?_
      show Steps _ _ _ (T44.setTop (mkF m 272 #[vI p1, vI p2, vI p3, vI 5, vI ((p3 &&& (2147483647 : Int32)) % (3 : Int32)), vI v2, vR s_NULLIF, vI v41] [iI 1])) _
      exact retN X44 hx (t := .boolean) Bd.returns (by simp) (hb hby at_272) hr
    · show Q0 Z p1 p2 p3 s_ABS s_RANGE s_NVL2 s_ATLEASTNNONNULLS s_CONCAT s_IFNULL s_NULLIF s_COALESCE h0 _ T44.heap _
      rw [e44]
      exact ⟨rfl, rfl, rfl⟩
  · obtain ⟨T46, X46, e46, st46⟩ := getS2 X3 hx hZ hown (host := "") (Or.inl (hw _ (List.mem_of_getElem? (i := 25) rfl))) Via.refl e3 S_COALESCE (g := (mkF m 218 #[vI p1, vI p2, vI p3, vI 6, vI ((p3 &&& (2147483647 : Int32)) % (3 : Int32)), vI v2, .unset, .unset] [])) rfl (hb hby at_218)
    obtain ⟨v47, hv47⟩ : ∃ z : Int32, z = (if (0 : Int32) < v2 then (1 : Int32) else (0 : Int32)) := ⟨_, rfl⟩
    obtain ⟨T48, X48, e48, st48⟩ : own_Mid X46 h0 (mkF m 225 #[vI p1, vI p2, vI p3, vI 6, vI ((p3 &&& (2147483647 : Int32)) % (3 : Int32)), vI v2, vR s_COALESCE, .unset] [iI v2]) (mkF m 233 #[vI p1, vI p2, vI p3, vI 6, vI ((p3 &&& (2147483647 : Int32)) % (3 : Int32)), vI v2, vR s_COALESCE, .unset] [iI v47]) := by
      by_cases hc49 : (0 : Int32) < v2
      · refine ⟨T46, X46, e46, fun t kt => ?_⟩
        subst hv47
        simp only [if_pos hc49] at kt
        show Steps _ _ _ (T46.setTop (mkF m 225 #[vI p1, vI p2, vI p3, vI 6, vI ((p3 &&& (2147483647 : Int32)) % (3 : Int32)), vI v2, vR s_COALESCE, .unset] [iI v2])) _
        refine XS.ifNo X46.here hx rfl (hb hby at_225) rfl ((if0 _ _).trans (tlt hc49).2.2.2) ?_
        show Steps _ _ _ (T46.setTop (mkF m 228 #[vI p1, vI p2, vI p3, vI 6, vI ((p3 &&& (2147483647 : Int32)) % (3 : Int32)), vI v2, vR s_COALESCE, .unset] [])) _
        refine XS.iconst X46.here hx rfl (hb hby at_228) ?_
        show Steps _ _ _ (T46.setTop (mkF m 229 #[vI p1, vI p2, vI p3, vI 6, vI ((p3 &&& (2147483647 : Int32)) % (3 : Int32)), vI v2, vR s_COALESCE, .unset] [iI 1])) _
        refine XS.goto X46.here hx rfl (pc0 := 229) (pc' := 233) rfl (hb hby at_229) (by decide) (by decide) ?_
        exact kt
      · refine ⟨T46, X46, e46, fun t kt => ?_⟩
        subst hv47
        simp only [if_neg hc49] at kt
        show Steps _ _ _ (T46.setTop (mkF m 225 #[vI p1, vI p2, vI p3, vI 6, vI ((p3 &&& (2147483647 : Int32)) % (3 : Int32)), vI v2, vR s_COALESCE, .unset] [iI v2])) _
        refine XS.ifYes X46.here hx rfl (pc0 := 225) (pc' := 232) rfl (hb hby at_225) rfl ((if0 _ _).trans (flt hc49).2.2.2) (by decide) (by decide) ?_
        show Steps _ _ _ (T46.setTop (mkF m 232 #[vI p1, vI p2, vI p3, vI 6, vI ((p3 &&& (2147483647 : Int32)) % (3 : Int32)), vI v2, vR s_COALESCE, .unset] [])) _
        refine XS.iconst X46.here hx rfl (hb hby at_232) ?_
        exact kt
    obtain ⟨cq50, kq50, q50a, q50b, q50c⟩ := isOf hZ e48 E_COALESCE
    obtain ⟨_, _, ⟨T50, L50, k50, n50⟩, -, X50, ⟨Lc50, hQ50, l50, y50, z50⟩, st50⟩ := X48.virtualBack hx (y := (⟨"com/example/nullwise/nullwise/Function", "takes", "(I)Z"⟩ : MethodName)) (z := (⟨"com/example/nullwise/nullwise/Function", "takes", "(I)Z"⟩ : MethodName)) hown (mvT hZ (hw _ (List.mem_of_getElem? (i := 4) rfl))) (mvT hZ (hw _ (List.mem_of_getElem? (i := 5) rfl))) (notFace_of_selects (args := #[]) (mvT hZ (hw _ (List.mem_of_getElem? (i := 7) rfl)))) (mvT hZ (hw _ (List.mem_of_getElem? (i := 7) rfl))) (mvT hZ (hw _ (List.mem_of_getElem? (i := 6) rfl))) (by decide) (backOf (W := 0) (rm1_6 l Z a0 hw [] v2 s_ABS s_RANGE s_NVL2 s_ATLEASTNNONNULLS s_CONCAT s_IFNULL s_NULLIF s_COALESCE h0 S_ABS E_ABS F_fewestArguments_ABS F_mostArguments_ABS S_RANGE E_RANGE F_fewestArguments_RANGE F_mostArguments_RANGE S_NVL2 E_NVL2 F_fewestArguments_NVL2 S_ATLEASTNNONNULLS E_ATLEASTNNONNULLS F_fewestArguments_ATLEASTNNONNULLS S_CONCAT E_CONCAT F_fewestArguments_CONCAT F_mostArguments_CONCAT S_IFNULL E_IFNULL F_fewestArguments_IFNULL F_mostArguments_IFNULL S_NULLIF E_NULLIF F_fewestArguments_NULLIF F_mostArguments_NULLIF S_COALESCE E_COALESCE F_fewestArguments_COALESCE F_mostArguments_COALESCE F_mostArguments_ATLEASTNNONNULLS F_mostArguments_NVL2) hZ (hw _ (List.mem_of_getElem? (i := 8) rfl)) (hw _ (List.mem_of_getElem? (i := 2) rfl)) (by decide) (by decide)) q50a q50c (g := (mkF m 259 #[vI p1, vI p2, vI p3, vI 6, vI ((p3 &&& (2147483647 : Int32)) % (3 : Int32)), vI v2, vR s_COALESCE, vI v47] [iI v2, iR s_COALESCE])) rfl (by rw [hml]; rfl) (Steps.refl _) (argsL := [(.int v2)]) (rest := []) (lenOf pd_0 rfl) rfl (by show 2 * 0 + _ ≤ _; exact Nat.le_of_eq rfl) (hb hby at_259) (fun _ _ => ⟨rfl, e48, (by decide : 0 + 0 ≤ _), (by decide : 0 + 0 ≤ _)⟩)
    dsimp only [Pt.U, Pt.locs, Pt.cells, Pt.slots] at X50 l50 y50 z50 st50 hQ50
    subst l50 y50 z50
    obtain ⟨rfl, rfl, e50⟩ := hQ50
    try rw [List.append_nil] at X50
    have hh51 : (own_tk_6 v2) = v47 := (by rw [hv47]; exact own_eq_6 _)
    obtain ⟨fs, hr, hrun, hended, hW, hsame⟩ := X50.leave (v := some (.int (1 : Int32))) (fun h => by rw [Bd.returns] at h; cases h)
    refine ⟨_, _, pre7 _ ?_, hrun, hended, _, _, rfl, ?_, ⟨_, rfl⟩, hW, hsame.mono (by decide) (by decide)⟩
    · show Steps _ _ _ (T3.setTop (mkF m 52 #[vI p1, vI p2, vI p3, vI 6, vI ((p3 &&& (2147483647 : Int32)) % (3 : Int32)), vI v2, .unset, .unset] [])) _
      refine XS.iloadN X3.here hx rfl (hb hby at_52) rfl ?_
      show Steps _ _ _ (T3.setTop (mkF m 53 #[vI p1, vI p2, vI p3, vI 6, vI ((p3 &&& (2147483647 : Int32)) % (3 : Int32)), vI v2, .unset, .unset] [iI 6])) _
      refine XS.ifYes X3.here hx rfl (pc0 := 53) (pc' := 77) rfl (hb hby at_53) rfl ((if0 _ _).trans (feq (by decide : ¬ ((6 : Int32) = (0 : Int32)))).2) (by decide) (by decide) ?_
      show Steps _ _ _ (T3.setTop (mkF m 77 #[vI p1, vI p2, vI p3, vI 6, vI ((p3 &&& (2147483647 : Int32)) % (3 : Int32)), vI v2, .unset, .unset] [])) _
      refine XS.iloadN X3.here hx rfl (hb hby at_77) rfl ?_
      show Steps _ _ _ (T3.setTop (mkF m 78 #[vI p1, vI p2, vI p3, vI 6, vI ((p3 &&& (2147483647 : Int32)) % (3 : Int32)), vI v2, .unset, .unset] [iI 6])) _
      refine XS.iconst X3.here hx rfl (hb hby at_78) ?_
      show Steps _ _ _ (T3.setTop (mkF m 79 #[vI p1, vI p2, vI p3, vI 6, vI ((p3 &&& (2147483647 : Int32)) % (3 : Int32)), vI v2, .unset, .unset] [iI 1, iI 6])) _
      refine XS.icmpYes X3.here hx rfl (pc0 := 79) (pc' := 109) rfl (hb hby at_79) rfl (feq (by decide : ¬ ((6 : Int32) = (1 : Int32)))).2 (by decide) (by decide) ?_
      show Steps _ _ _ (T3.setTop (mkF m 109 #[vI p1, vI p2, vI p3, vI 6, vI ((p3 &&& (2147483647 : Int32)) % (3 : Int32)), vI v2, .unset, .unset] [])) _
      refine XS.iloadN X3.here hx rfl (hb hby at_109) rfl ?_
      show Steps _ _ _ (T3.setTop (mkF m 110 #[vI p1, vI p2, vI p3, vI 6, vI ((p3 &&& (2147483647 : Int32)) % (3 : Int32)), vI v2, .unset, .unset] [iI 6])) _
      refine XS.iconst X3.here hx rfl (hb hby at_110) ?_
      show Steps _ _ _ (T3.setTop (mkF m 111 #[vI p1, vI p2, vI p3, vI 6, vI ((p3 &&& (2147483647 : Int32)) % (3 : Int32)), vI v2, .unset, .unset] [iI 2, iI 6])) _
      refine XS.icmpYes X3.here hx rfl (pc0 := 111) (pc' := 134) rfl (hb hby at_111) rfl (feq (by decide : ¬ ((6 : Int32) = (2 : Int32)))).2 (by decide) (by decide) ?_
      show Steps _ _ _ (T3.setTop (mkF m 134 #[vI p1, vI p2, vI p3, vI 6, vI ((p3 &&& (2147483647 : Int32)) % (3 : Int32)), vI v2, .unset, .unset] [])) _
      refine XS.iloadN X3.here hx rfl (hb hby at_134) rfl ?_
      show Steps _ _ _ (T3.setTop (mkF m 135 #[vI p1, vI p2, vI p3, vI 6, vI ((p3 &&& (2147483647 : Int32)) % (3 : Int32)), vI v2, .unset, .unset] [iI 6])) _
      refine XS.iconst X3.here hx rfl (hb hby at_135) ?_
      show Steps _ _ _ (T3.setTop (mkF m 136 #[vI p1, vI p2, vI p3, vI 6, vI ((p3 &&& (2147483647 : Int32)) % (3 : Int32)), vI v2, .unset, .unset] [iI 3, iI 6])) _
      refine XS.icmpYes X3.here hx rfl (pc0 := 136) (pc' := 160) rfl (hb hby at_136) rfl (feq (by decide : ¬ ((6 : Int32) = (3 : Int32)))).2 (by decide) (by decide) ?_
      show Steps _ _ _ (T3.setTop (mkF m 160 #[vI p1, vI p2, vI p3, vI 6, vI ((p3 &&& (2147483647 : Int32)) % (3 : Int32)), vI v2, .unset, .unset] [])) _
      refine XS.iloadN X3.here hx rfl (hb hby at_160) rfl ?_
      show Steps _ _ _ (T3.setTop (mkF m 161 #[vI p1, vI p2, vI p3, vI 6, vI ((p3 &&& (2147483647 : Int32)) % (3 : Int32)), vI v2, .unset, .unset] [iI 6])) _
      refine XS.iconst X3.here hx rfl (hb hby at_161) ?_
      show Steps _ _ _ (T3.setTop (mkF m 162 #[vI p1, vI p2, vI p3, vI 6, vI ((p3 &&& (2147483647 : Int32)) % (3 : Int32)), vI v2, .unset, .unset] [iI 4, iI 6])) _
      refine XS.icmpYes X3.here hx rfl (pc0 := 162) (pc' := 186) rfl (hb hby at_162) rfl (feq (by decide : ¬ ((6 : Int32) = (4 : Int32)))).2 (by decide) (by decide) ?_
      show Steps _ _ _ (T3.setTop (mkF m 186 #[vI p1, vI p2, vI p3, vI 6, vI ((p3 &&& (2147483647 : Int32)) % (3 : Int32)), vI v2, .unset, .unset] [])) _
      refine XS.iloadN X3.here hx rfl (hb hby at_186) rfl ?_
      show Steps _ _ _ (T3.setTop (mkF m 187 #[vI p1, vI p2, vI p3, vI 6, vI ((p3 &&& (2147483647 : Int32)) % (3 : Int32)), vI v2, .unset, .unset] [iI 6])) _
      refine XS.iconst X3.here hx rfl (hb hby at_187) ?_
      show Steps _ _ _ (T3.setTop (mkF m 188 #[vI p1, vI p2, vI p3, vI 6, vI ((p3 &&& (2147483647 : Int32)) % (3 : Int32)), vI v2, .unset, .unset] [iI 5, iI 6])) _
      refine XS.icmpYes X3.here hx rfl (pc0 := 188) (pc' := 212) rfl (hb hby at_188) rfl (feq (by decide : ¬ ((6 : Int32) = (5 : Int32)))).2 (by decide) (by decide) ?_
      show Steps _ _ _ (T3.setTop (mkF m 212 #[vI p1, vI p2, vI p3, vI 6, vI ((p3 &&& (2147483647 : Int32)) % (3 : Int32)), vI v2, .unset, .unset] [])) _
      refine XS.iloadN X3.here hx rfl (hb hby at_212) rfl ?_
      show Steps _ _ _ (T3.setTop (mkF m 213 #[vI p1, vI p2, vI p3, vI 6, vI ((p3 &&& (2147483647 : Int32)) % (3 : Int32)), vI v2, .unset, .unset] [iI 6])) _
      refine XS.bipush X3.here hx rfl (hb hby at_213) ?_
      show Steps _ _ _ (T3.setTop (mkF m 215 #[vI p1, vI p2, vI p3, vI 6, vI ((p3 &&& (2147483647 : Int32)) % (3 : Int32)), vI v2, .unset, .unset] [iI 6, iI 6])) _
      refine XS.icmpNo X3.here hx rfl (hb hby at_215) rfl (teq (by decide : (6 : Int32) = (6 : Int32))).2 ?_
      show Steps _ _ _ (T3.setTop (mkF m 218 #[vI p1, vI p2, vI p3, vI 6, vI ((p3 &&& (2147483647 : Int32)) % (3 : Int32)), vI v2, .unset, .unset] [])) _
      refine st46 _ ?_
      show Steps _ _ _ (T46.setTop (mkF m 221 #[vI p1, vI p2, vI p3, vI 6, vI ((p3 &&& (2147483647 : Int32)) % (3 : Int32)), vI v2, .unset, .unset] [iR s_COALESCE])) _
      refine XS.astore X46.here hx rfl (hb hby at_221) rfl rfl (l' := #[vI p1, vI p2, vI p3, vI 6, vI ((p3 &&& (2147483647 : Int32)) % (3 : Int32)), vI v2, vR s_COALESCE, .unset]) rfl ?_
      show Steps _ _ _ (T46.setTop (mkF m 223 #[vI p1, vI p2, vI p3, vI 6, vI ((p3 &&& (2147483647 : Int32)) % (3 : Int32)), vI v2, vR s_COALESCE, .unset] [])) _
      refine XS.iload X46.here hx rfl (hb hby at_223) rfl ?_
      show Steps _ _ _ (T46.setTop (mkF m 225 #[vI p1, vI p2, vI p3, vI 6, vI ((p3 &&& (2147483647 : Int32)) % (3 : Int32)), vI v2, vR s_COALESCE, .unset] [iI v2])) _
      refine st48 _ ?_
      show Steps _ _ _ (T48.setTop (mkF m 233 #[vI p1, vI p2, vI p3, vI 6, vI ((p3 &&& (2147483647 : Int32)) % (3 : Int32)), vI v2, vR s_COALESCE, .unset] [iI v47])) _
      refine XS.istore X48.here hx rfl (hb hby at_233) rfl (l' := #[vI p1, vI p2, vI p3, vI 6, vI ((p3 &&& (2147483647 : Int32)) % (3 : Int32)), vI v2, vR s_COALESCE, vI v47]) rfl ?_
      show Steps _ _ _ (T48.setTop (mkF m 235 #[vI p1, vI p2, vI p3, vI 6, vI ((p3 &&& (2147483647 : Int32)) % (3 : Int32)), vI v2, vR s_COALESCE, vI v47] [])) _
      refine XS.goto X48.here hx rfl (pc0 := 235) (pc' := 255) rfl (hb hby at_235) (by decide) (by decide) ?_
      show Steps _ _ _ (T48.setTop (mkF m 255 #[vI p1, vI p2, vI p3, vI 6, vI ((p3 &&& (2147483647 : Int32)) % (3 : Int32)), vI v2, vR s_COALESCE, vI v47] [])) _
      refine XS.aload X48.here hx rfl (hb hby at_255) rfl rfl ?_
      show Steps _ _ _ (T48.setTop (mkF m 257 #[vI p1, vI p2, vI p3, vI 6, vI ((p3 &&& (2147483647 : Int32)) % (3 : Int32)), vI v2, vR s_COALESCE, vI v47] [iR s_COALESCE])) _
      refine XS.iload X48.here hx rfl (hb hby at_257) rfl ?_
      show Steps _ _ _ (T48.setTop (mkF m 259 #[vI p1, vI p2, vI p3, vI 6, vI ((p3 &&& (2147483647 : Int32)) % (3 : Int32)), vI v2, vR s_COALESCE, vI v47] [iI v2, iR s_COALESCE])) _
      refine st50.trans ?_
      show Steps _ _ _ (T50.setTop (mkF m 262 #[vI p1, vI p2, vI p3, vI 6, vI ((p3 &&& (2147483647 : Int32)) % (3 : Int32)), vI v2, vR s_COALESCE, vI v47] [iI (own_tk_6 v2)])) _
      refine XS.iload X50.here hx rfl (hb hby at_262) rfl ?_
      show Steps _ _ _ (T50.setTop (mkF m 264 #[vI p1, vI p2, vI p3, vI 6, vI ((p3 &&& (2147483647 : Int32)) % (3 : Int32)), vI v2, vR s_COALESCE, vI v47] [iI v47, iI (own_tk_6 v2)])) _
      refine XS.icmpNo X50.here hx rfl (hb hby at_264) rfl (teq hh51).2 ?_
      show Steps _ _ _ (T50.setTop (mkF m 267 #[vI p1, vI p2, vI p3, vI 6, vI ((p3 &&& (2147483647 : Int32)) % (3 : Int32)), vI v2, vR s_COALESCE, vI v47] [])) _
      refine XS.iconst X50.here hx rfl (hb hby at_267) ?_
      show Steps _ _ _ (T50.setTop (mkF m 268 #[vI p1, vI p2, vI p3, vI 6, vI ((p3 &&& (2147483647 : Int32)) % (3 : Int32)), vI v2, vR s_COALESCE, vI v47] [iI 1])) _
      refine XS.goto X50.here hx rfl (pc0 := 268) (pc' := 272) rfl (hb hby at_268) (by decide) (by decide) ?_
      show Steps _ _ _ (T50.setTop (mkF m 272 #[vI p1, vI p2, vI p3, vI 6, vI ((p3 &&& (2147483647 : Int32)) % (3 : Int32)), vI v2, vR s_COALESCE, vI v47] [iI 1])) _
      exact retN X50 hx (t := .boolean) Bd.returns (by simp) (hb hby at_272) hr
    · show Q0 Z p1 p2 p3 s_ABS s_RANGE s_NVL2 s_ATLEASTNNONNULLS s_CONCAT s_IFNULL s_NULLIF s_COALESCE h0 _ T50.heap _
      rw [e50]
      exact ⟨rfl, rfl, rfl⟩
  · obtain ⟨T52, X52, e52, st52⟩ := getS2 X3 hx hZ hown (host := "") (Or.inl (hw _ (List.mem_of_getElem? (i := 17) rfl))) Via.refl e3 S_ATLEASTNNONNULLS (g := (mkF m 238 #[vI p1, vI p2, vI p3, vI 7, vI ((p3 &&& (2147483647 : Int32)) % (3 : Int32)), vI v2, .unset, .unset] [])) rfl (hb hby at_238)
    obtain ⟨v53, hv53⟩ : ∃ z : Int32, z = (if (0 : Int32) < v2 then (1 : Int32) else (0 : Int32)) := ⟨_, rfl⟩
    obtain ⟨T54, X54, e54, st54⟩ : own_Mid X52 h0 (mkF m 245 #[vI p1, vI p2, vI p3, vI 7, vI ((p3 &&& (2147483647 : Int32)) % (3 : Int32)), vI v2, vR s_ATLEASTNNONNULLS, .unset] [iI v2]) (mkF m 253 #[vI p1, vI p2, vI p3, vI 7, vI ((p3 &&& (2147483647 : Int32)) % (3 : Int32)), vI v2, vR s_ATLEASTNNONNULLS, .unset] [iI v53]) := by
      by_cases hc55 : (0 : Int32) < v2
      · refine ⟨T52, X52, e52, fun t kt => ?_⟩
        subst hv53
        simp only [if_pos hc55] at kt
        show Steps _ _ _ (T52.setTop (mkF m 245 #[vI p1, vI p2, vI p3, vI 7, vI ((p3 &&& (2147483647 : Int32)) % (3 : Int32)), vI v2, vR s_ATLEASTNNONNULLS, .unset] [iI v2])) _
        refine XS.ifNo X52.here hx rfl (hb hby at_245) rfl ((if0 _ _).trans (tlt hc55).2.2.2) ?_
        show Steps _ _ _ (T52.setTop (mkF m 248 #[vI p1, vI p2, vI p3, vI 7, vI ((p3 &&& (2147483647 : Int32)) % (3 : Int32)), vI v2, vR s_ATLEASTNNONNULLS, .unset] [])) _
        refine XS.iconst X52.here hx rfl (hb hby at_248) ?_
        show Steps _ _ _ (T52.setTop (mkF m 249 #[vI p1, vI p2, vI p3, vI 7, vI ((p3 &&& (2147483647 : Int32)) % (3 : Int32)), vI v2, vR s_ATLEASTNNONNULLS, .unset] [iI 1])) _
        refine XS.goto X52.here hx rfl (pc0 := 249) (pc' := 253) rfl (hb hby at_249) (by decide) (by decide) ?_
        exact kt
      · refine ⟨T52, X52, e52, fun t kt => ?_⟩
        subst hv53
        simp only [if_neg hc55] at kt
        show Steps _ _ _ (T52.setTop (mkF m 245 #[vI p1, vI p2, vI p3, vI 7, vI ((p3 &&& (2147483647 : Int32)) % (3 : Int32)), vI v2, vR s_ATLEASTNNONNULLS, .unset] [iI v2])) _
        refine XS.ifYes X52.here hx rfl (pc0 := 245) (pc' := 252) rfl (hb hby at_245) rfl ((if0 _ _).trans (flt hc55).2.2.2) (by decide) (by decide) ?_
        show Steps _ _ _ (T52.setTop (mkF m 252 #[vI p1, vI p2, vI p3, vI 7, vI ((p3 &&& (2147483647 : Int32)) % (3 : Int32)), vI v2, vR s_ATLEASTNNONNULLS, .unset] [])) _
        refine XS.iconst X52.here hx rfl (hb hby at_252) ?_
        exact kt
    obtain ⟨cq56, kq56, q56a, q56b, q56c⟩ := isOf hZ e54 E_ATLEASTNNONNULLS
    obtain ⟨_, _, ⟨T56, L56, k56, n56⟩, -, X56, ⟨Lc56, hQ56, l56, y56, z56⟩, st56⟩ := X54.virtualBack hx (y := (⟨"com/example/nullwise/nullwise/Function", "takes", "(I)Z"⟩ : MethodName)) (z := (⟨"com/example/nullwise/nullwise/Function", "takes", "(I)Z"⟩ : MethodName)) hown (mvT hZ (hw _ (List.mem_of_getElem? (i := 4) rfl))) (mvT hZ (hw _ (List.mem_of_getElem? (i := 5) rfl))) (notFace_of_selects (args := #[]) (mvT hZ (hw _ (List.mem_of_getElem? (i := 7) rfl)))) (mvT hZ (hw _ (List.mem_of_getElem? (i := 7) rfl))) (mvT hZ (hw _ (List.mem_of_getElem? (i := 6) rfl))) (by decide) (backOf (W := 0) (rm1_7 l Z a0 hw [] v2 s_ABS s_RANGE s_NVL2 s_ATLEASTNNONNULLS s_CONCAT s_IFNULL s_NULLIF s_COALESCE h0 S_ABS E_ABS F_fewestArguments_ABS F_mostArguments_ABS S_RANGE E_RANGE F_fewestArguments_RANGE F_mostArguments_RANGE S_NVL2 E_NVL2 F_fewestArguments_NVL2 S_ATLEASTNNONNULLS E_ATLEASTNNONNULLS F_fewestArguments_ATLEASTNNONNULLS S_CONCAT E_CONCAT F_fewestArguments_CONCAT F_mostArguments_CONCAT S_IFNULL E_IFNULL F_fewestArguments_IFNULL F_mostArguments_IFNULL S_NULLIF E_NULLIF F_fewestArguments_NULLIF F_mostArguments_NULLIF S_COALESCE E_COALESCE F_fewestArguments_COALESCE F_mostArguments_COALESCE F_mostArguments_ATLEASTNNONNULLS F_mostArguments_NVL2) hZ (hw _ (List.mem_of_getElem? (i := 8) rfl)) (hw _ (List.mem_of_getElem? (i := 2) rfl)) (by decide) (by decide)) q56a q56c (g := (mkF m 259 #[vI p1, vI p2, vI p3, vI 7, vI ((p3 &&& (2147483647 : Int32)) % (3 : Int32)), vI v2, vR s_ATLEASTNNONNULLS, vI v53] [iI v2, iR s_ATLEASTNNONNULLS])) rfl (by rw [hml]; rfl) (Steps.refl _) (argsL := [(.int v2)]) (rest := []) (lenOf pd_0 rfl) rfl (by show 2 * 0 + _ ≤ _; exact Nat.le_of_eq rfl) (hb hby at_259) (fun _ _ => ⟨rfl, e54, (by decide : 0 + 0 ≤ _), (by decide : 0 + 0 ≤ _)⟩)
    dsimp only [Pt.U, Pt.locs, Pt.cells, Pt.slots] at X56 l56 y56 z56 st56 hQ56
    subst l56 y56 z56
    obtain ⟨rfl, rfl, e56⟩ := hQ56
    try rw [List.append_nil] at X56
    have hh57 : (own_tk_7 v2) = v53 := (by rw [hv53]; exact own_eq_7 _)
    obtain ⟨fs, hr, hrun, hended, hW, hsame⟩ := X56.leave (v := some (.int (1 : Int32))) (fun h => by rw [Bd.returns] at h; cases h)
    refine ⟨_, _, pre7 _ ?_, hrun, hended, _, _, rfl, ?_, ⟨_, rfl⟩, hW, hsame.mono (by decide) (by decide)⟩
    · show Steps _ _ _ (T3.setTop (mkF m 52 #[vI p1, vI p2, vI p3, vI 7, vI ((p3 &&& (2147483647 : Int32)) % (3 : Int32)), vI v2, .unset, .unset] [])) _
      refine XS.iloadN X3.here hx rfl (hb hby at_52) rfl ?_
      show Steps _ _ _ (T3.setTop (mkF m 53 #[vI p1, vI p2, vI p3, vI 7, vI ((p3 &&& (2147483647 : Int32)) % (3 : Int32)), vI v2, .unset, .unset] [iI 7])) _
      refine XS.ifYes X3.here hx rfl (pc0 := 53) (pc' := 77) rfl (hb hby at_53) rfl ((if0 _ _).trans (feq (by decide : ¬ ((7 : Int32) = (0 : Int32)))).2) (by decide) (by decide) ?_
      show Steps _ _ _ (T3.setTop (mkF m 77 #[vI p1, vI p2, vI p3, vI 7, vI ((p3 &&& (2147483647 : Int32)) % (3 : Int32)), vI v2, .unset, .unset] [])) _
      refine XS.iloadN X3.here hx rfl (hb hby at_77) rfl ?_
      show Steps _ _ _ (T3.setTop (mkF m 78 #[vI p1, vI p2, vI p3, vI 7, vI ((p3 &&& (2147483647 : Int32)) % (3 : Int32)), vI v2, .unset, .unset] [iI 7])) _
      refine XS.iconst X3.here hx rfl (hb hby at_78) ?_
      show Steps _ _ _ (T3.setTop (mkF m 79 #[vI p1, vI p2, vI p3, vI 7, vI ((p3 &&& (2147483647 : Int32)) % (3 : Int32)), vI v2, .unset, .unset] [iI 1, iI 7])) _
      refine XS.icmpYes X3.here hx rfl (pc0 := 79) (pc' := 109) rfl (hb hby at_79) rfl (feq (by decide : ¬ ((7 : Int32) = (1 : Int32)))).2 (by decide) (by decide) ?_
      show Steps _ _ _ (T3.setTop (mkF m 109 #[vI p1, vI p2, vI p3, vI 7, vI ((p3 &&& (2147483647 : Int32)) % (3 : Int32)), vI v2, .unset, .unset] [])) _
      refine XS.iloadN X3.here hx rfl (hb hby at_109) rfl ?_
      show Steps _ _ _ (T3.setTop (mkF m 110 #[vI p1, vI p2, vI p3, vI 7, vI ((p3 &&& (2147483647 : Int32)) % (3 : Int32)), vI v2, .unset, .unset] [iI 7])) _
      refine XS.iconst X3.here hx rfl (hb hby at_110) ?_
      show Steps _ _ _ (T3.setTop (mkF m 111 #[vI p1, vI p2, vI p3, vI 7, vI ((p3 &&& (2147483647 : Int32)) % (3 : Int32)), vI v2, .unset, .unset] [iI 2, iI 7])) _
      refine XS.icmpYes X3.here hx rfl (pc0 := 111) (pc' := 134) rfl (hb hby at_111) rfl (feq (by decide : ¬ ((7 : Int32) = (2 : Int32)))).2 (by decide) (by decide) ?_
      show Steps _ _ _ (T3.setTop (mkF m 134 #[vI p1, vI p2, vI p3, vI 7, vI ((p3 &&& (2147483647 : Int32)) % (3 : Int32)), vI v2, .unset, .unset] [])) _
      refine XS.iloadN X3.here hx rfl (hb hby at_134) rfl ?_
      show Steps _ _ _ (T3.setTop (mkF m 135 #[vI p1, vI p2, vI p3, vI 7, vI ((p3 &&& (2147483647 : Int32)) % (3 : Int32)), vI v2, .unset, .unset] [iI 7])) _
      refine XS.iconst X3.here hx rfl (hb hby at_135) ?_
      show Steps _ _ _ (T3.setTop (mkF m 136 #[vI p1, vI p2, vI p3, vI 7, vI ((p3 &&& (2147483647 : Int32)) % (3 : Int32)), vI v2, .unset, .unset] [iI 3, iI 7])) _
      refine XS.icmpYes X3.here hx rfl (pc0 := 136) (pc' := 160) rfl (hb hby at_136) rfl (feq (by decide : ¬ ((7 : Int32) = (3 : Int32)))).2 (by decide) (by decide) ?_
      show Steps _ _ _ (T3.setTop (mkF m 160 #[vI p1, vI p2, vI p3, vI 7, vI ((p3 &&& (2147483647 : Int32)) % (3 : Int32)), vI v2, .unset, .unset] [])) _
      refine XS.iloadN X3.here hx rfl (hb hby at_160) rfl ?_
      show Steps _ _ _ (T3.setTop (mkF m 161 #[vI p1, vI p2, vI p3, vI 7, vI ((p3 &&& (2147483647 : Int32)) % (3 : Int32)), vI v2, .unset, .unset] [iI 7])) _
      refine XS.iconst X3.here hx rfl (hb hby at_161) ?_
      show Steps _ _ _ (T3.setTop (mkF m 162 #[vI p1, vI p2, vI p3, vI 7, vI ((p3 &&& (2147483647 : Int32)) % (3 : Int32)), vI v2, .unset, .unset] [iI 4, iI 7])) _
      refine XS.icmpYes X3.here hx rfl (pc0 := 162) (pc' := 186) rfl (hb hby at_162) rfl (feq (by decide : ¬ ((7 : Int32) = (4 : Int32)))).2 (by decide) (by decide) ?_
      show Steps _ _ _ (T3.setTop (mkF m 186 #[vI p1, vI p2, vI p3, vI 7, vI ((p3 &&& (2147483647 : Int32)) % (3 : Int32)), vI v2, .unset, .unset] [])) _
      refine XS.iloadN X3.here hx rfl (hb hby at_186) rfl ?_
      show Steps _ _ _ (T3.setTop (mkF m 187 #[vI p1, vI p2, vI p3, vI 7, vI ((p3 &&& (2147483647 : Int32)) % (3 : Int32)), vI v2, .unset, .unset] [iI 7])) _
      refine XS.iconst X3.here hx rfl (hb hby at_187) ?_
      show Steps _ _ _ (T3.setTop (mkF m 188 #[vI p1, vI p2, vI p3, vI 7, vI ((p3 &&& (2147483647 : Int32)) % (3 : Int32)), vI v2, .unset, .unset] [iI 5, iI 7])) _
      refine XS.icmpYes X3.here hx rfl (pc0 := 188) (pc' := 212) rfl (hb hby at_188) rfl (feq (by decide : ¬ ((7 : Int32) = (5 : Int32)))).2 (by decide) (by decide) ?_
      show Steps _ _ _ (T3.setTop (mkF m 212 #[vI p1, vI p2, vI p3, vI 7, vI ((p3 &&& (2147483647 : Int32)) % (3 : Int32)), vI v2, .unset, .unset] [])) _
      refine XS.iloadN X3.here hx rfl (hb hby at_212) rfl ?_
      show Steps _ _ _ (T3.setTop (mkF m 213 #[vI p1, vI p2, vI p3, vI 7, vI ((p3 &&& (2147483647 : Int32)) % (3 : Int32)), vI v2, .unset, .unset] [iI 7])) _
      refine XS.bipush X3.here hx rfl (hb hby at_213) ?_
      show Steps _ _ _ (T3.setTop (mkF m 215 #[vI p1, vI p2, vI p3, vI 7, vI ((p3 &&& (2147483647 : Int32)) % (3 : Int32)), vI v2, .unset, .unset] [iI 6, iI 7])) _
      refine XS.icmpYes X3.here hx rfl (pc0 := 215) (pc' := 238) rfl (hb hby at_215) rfl (feq (by decide : ¬ ((7 : Int32) = (6 : Int32)))).2 (by decide) (by decide) ?_
      show Steps _ _ _ (T3.setTop (mkF m 238 #[vI p1, vI p2, vI p3, vI 7, vI ((p3 &&& (2147483647 : Int32)) % (3 : Int32)), vI v2, .unset, .unset] [])) _
      refine st52 _ ?_
      show Steps _ _ _ (T52.setTop (mkF m 241 #[vI p1, vI p2, vI p3, vI 7, vI ((p3 &&& (2147483647 : Int32)) % (3 : Int32)), vI v2, .unset, .unset] [iR s_ATLEASTNNONNULLS])) _
      refine XS.astore X52.here hx rfl (hb hby at_241) rfl rfl (l' := #[vI p1, vI p2, vI p3, vI 7, vI ((p3 &&& (2147483647 : Int32)) % (3 : Int32)), vI v2, vR s_ATLEASTNNONNULLS, .unset]) rfl ?_
      show Steps _ _ _ (T52.setTop (mkF m 243 #[vI p1, vI p2, vI p3, vI 7, vI ((p3 &&& (2147483647 : Int32)) % (3 : Int32)), vI v2, vR s_ATLEASTNNONNULLS, .unset] [])) _
      refine XS.iload X52.here hx rfl (hb hby at_243) rfl ?_
      show Steps _ _ _ (T52.setTop (mkF m 245 #[vI p1, vI p2, vI p3, vI 7, vI ((p3 &&& (2147483647 : Int32)) % (3 : Int32)), vI v2, vR s_ATLEASTNNONNULLS, .unset] [iI v2])) _
      refine st54 _ ?_
      show Steps _ _ _ (T54.setTop (mkF m 253 #[vI p1, vI p2, vI p3, vI 7, vI ((p3 &&& (2147483647 : Int32)) % (3 : Int32)), vI v2, vR s_ATLEASTNNONNULLS, .unset] [iI v53])) _
      refine XS.istore X54.here hx rfl (hb hby at_253) rfl (l' := #[vI p1, vI p2, vI p3, vI 7, vI ((p3 &&& (2147483647 : Int32)) % (3 : Int32)), vI v2, vR s_ATLEASTNNONNULLS, vI v53]) rfl ?_
      show Steps _ _ _ (T54.setTop (mkF m 255 #[vI p1, vI p2, vI p3, vI 7, vI ((p3 &&& (2147483647 : Int32)) % (3 : Int32)), vI v2, vR s_ATLEASTNNONNULLS, vI v53] [])) _
      refine XS.aload X54.here hx rfl (hb hby at_255) rfl rfl ?_
      show Steps _ _ _ (T54.setTop (mkF m 257 #[vI p1, vI p2, vI p3, vI 7, vI ((p3 &&& (2147483647 : Int32)) % (3 : Int32)), vI v2, vR s_ATLEASTNNONNULLS, vI v53] [iR s_ATLEASTNNONNULLS])) _
      refine XS.iload X54.here hx rfl (hb hby at_257) rfl ?_
      show Steps _ _ _ (T54.setTop (mkF m 259 #[vI p1, vI p2, vI p3, vI 7, vI ((p3 &&& (2147483647 : Int32)) % (3 : Int32)), vI v2, vR s_ATLEASTNNONNULLS, vI v53] [iI v2, iR s_ATLEASTNNONNULLS])) _
      refine st56.trans ?_
      show Steps _ _ _ (T56.setTop (mkF m 262 #[vI p1, vI p2, vI p3, vI 7, vI ((p3 &&& (2147483647 : Int32)) % (3 : Int32)), vI v2, vR s_ATLEASTNNONNULLS, vI v53] [iI (own_tk_7 v2)])) _
      refine XS.iload X56.here hx rfl (hb hby at_262) rfl ?_
      show Steps _ _ _ (T56.setTop (mkF m 264 #[vI p1, vI p2, vI p3, vI 7, vI ((p3 &&& (2147483647 : Int32)) % (3 : Int32)), vI v2, vR s_ATLEASTNNONNULLS, vI v53] [iI v53, iI (own_tk_7 v2)])) _
      refine XS.icmpNo X56.here hx rfl (hb hby at_264) rfl (teq hh57).2 ?_
      show Steps _ _ _ (T56.setTop (mkF m 267 #[vI p1, vI p2, vI p3, vI 7, vI ((p3 &&& (2147483647 : Int32)) % (3 : Int32)), vI v2, vR s_ATLEASTNNONNULLS, vI v53] [])) _
      refine XS.iconst X56.here hx rfl (hb hby at_267) ?_
      show Steps _ _ _ (T56.setTop (mkF m 268 #[vI p1, vI p2, vI p3, vI 7, vI ((p3 &&& (2147483647 : Int32)) % (3 : Int32)), vI v2, vR s_ATLEASTNNONNULLS, vI v53] [iI 1])) _
      refine XS.goto X56.here hx rfl (pc0 := 268) (pc' := 272) rfl (hb hby at_268) (by decide) (by decide) ?_
      show Steps _ _ _ (T56.setTop (mkF m 272 #[vI p1, vI p2, vI p3, vI 7, vI ((p3 &&& (2147483647 : Int32)) % (3 : Int32)), vI v2, vR s_ATLEASTNNONNULLS, vI v53] [iI 1])) _
      exact retN X56 hx (t := .boolean) Bd.returns (by simp) (hb hby at_272) hr
    · show Q0 Z p1 p2 p3 s_ABS s_RANGE s_NVL2 s_ATLEASTNNONNULLS s_CONCAT s_IFNULL s_NULLIF s_COALESCE h0 _ T56.heap _
      rw [e56]
      exact ⟨rfl, rfl, rfl⟩
set_option maxRecDepth 65536 in
set_option maxHeartbeats 40000000 in
theorem comes_1 {Post : Tables → Env → Array Value → State → Outcome → State → Prop} (hpost : ∀ tb e args s v u, (limb_1_1.after args s (.returned v) u = true ∧ limb_1_2.after args s (.returned v) u = true ∧ True) → FrameEnd s (.returned v) u (Jvm.fieldLocs frame_1_writes args s ++ Jvm.arrayLocs frame_1_arrays args s ++ Jvm.staticLocs frame_1_statics s) 0 0 → Post tb e args s (.returned v) u) :
    ArmFor flags0 classFile x code maxLocals ret World_1 tables_1 room_1 Calls_1 rest_1 Pre_1 Post := by
  intro l hfl _ _ p e ha hc hk s m args below hf hA hF happ hP
  obtain ⟨hcalls, hrest, hpre⟩ := hP
  obtain ⟨-, -, -, hnamed, -, -, -, hat⟩ := (Spec.applies_iff hf).mp happ
  obtain ⟨hg, hn⟩ := and_e (Cond.before_iff.mp (show (Jvm.Cond.and given_1 narrow_1).before args s = true from hpre))
  obtain ⟨gc, gr0⟩ := and_e hg
  obtain ⟨ga0, gr1⟩ := and_e gr0
  obtain ⟨ga1, gr2⟩ := and_e gr1
  obtain ⟨w0, w1, w2, rfl⟩ : ∃ w0 w1 w2 : Value, args = #[w0, w1, w2] := by
    have hs : args.size = 3 := by simpa [Cond.value, given_1] using gc
    obtain ⟨L⟩ := args
    match L, hs with
    | [w0, w1, w2], _ => exact ⟨w0, w1, w2, rfl⟩
  have hw := fun d (hd : d ∈ tables_1) => atoms_spec (ws := Jvm.Cond.code x code maxLocals ret :: tables_1) hat d (List.mem_cons_of_mem _ hd)
  have hfit : Fit s := fun {y c} hc i hi => by
    obtain ⟨ha, rfl⟩ := Array.getElem?_eq_some_iff.mp hc
    have q := List.all_eq_true.mp ((Array.all_eq_true_iff_forall_mem.mp hF) _ (Array.getElem_mem ha)) i (List.mem_range.mpr hi)
    simpa [Array.getElem?_eq_getElem hi] using q
  obtain ⟨i0, ei0⟩ := is_v ga0
  obtain rfl : w0 = (.int i0) := Option.some.inj ei0
  obtain ⟨i1, ei1⟩ := is_v ga1
  obtain rfl : w1 = (.int i1) := Option.some.inj ei1
  obtain ⟨i2, ei2⟩ := is_v gr2
  obtain rfl : w2 = (.int i2) := Option.some.inj ei2
  obtain ⟨u0, t0⟩ := and_e hn
  obtain ⟨u1, t1⟩ := and_e t0
  obtain ⟨u2, t2⟩ := and_e t1
  obtain ⟨u3, t3⟩ := and_e t2
  obtain ⟨u4, t4⟩ := and_e t3
  obtain ⟨u5, t5⟩ := and_e t4
  obtain ⟨u6, t6⟩ := and_e t5
  obtain ⟨u7, t7⟩ := and_e t6
  obtain ⟨u8, t8⟩ := and_e t7
  obtain ⟨u9, t9⟩ := and_e t8
  obtain ⟨u10, t10⟩ := and_e t9
  obtain ⟨u11, t11⟩ := and_e t10
  obtain ⟨u12, t12⟩ := and_e t11
  obtain ⟨u13, t13⟩ := and_e t12
  obtain ⟨u14, t14⟩ := and_e t13
  obtain ⟨u15, t15⟩ := and_e t14
  obtain ⟨u16, t16⟩ := and_e t15
  obtain ⟨u17, t17⟩ := and_e t16
  obtain ⟨u18, t18⟩ := and_e t17
  obtain ⟨u19, t19⟩ := and_e t18
  obtain ⟨u20, t20⟩ := and_e t19
  obtain ⟨u21, t21⟩ := and_e t20
  obtain ⟨u22, t22⟩ := and_e t21
  have u23 := t22
  obtain ⟨s_ABS, ev_ABS⟩ := exa_v u0
  have S_ABS : Sta s s.heap "com/example/nullwise/nullwise/Function" "ABS" "Lcom/example/nullwise/nullwise/Function;" (.ref s_ABS) := Sta.start ev_ABS (Or.inr ⟨(hw _ (List.mem_of_getElem? (i := 2) rfl)), (hw _ (List.mem_of_getElem? (i := 3) rfl))⟩)
  have E_ABS : Exa s s.heap s_ABS "com/example/nullwise/nullwise/Function" := Exa.start ev_ABS u0
  obtain ⟨s_RANGE, ev_RANGE⟩ := exa_v u3
  have S_RANGE : Sta s s.heap "com/example/nullwise/nullwise/Function" "RANGE" "Lcom/example/nullwise/nullwise/Function;" (.ref s_RANGE) := Sta.start ev_RANGE (Or.inr ⟨(hw _ (List.mem_of_getElem? (i := 2) rfl)), (hw _ (List.mem_of_getElem? (i := 14) rfl))⟩)
  have E_RANGE : Exa s s.heap s_RANGE "com/example/nullwise/nullwise/Function" := Exa.start ev_RANGE u3
  obtain ⟨s_NVL2, ev_NVL2⟩ := exa_v u6
  have S_NVL2 : Sta s s.heap "com/example/nullwise/nullwise/Function" "NVL2" "Lcom/example/nullwise/nullwise/Function;" (.ref s_NVL2) := Sta.start ev_NVL2 (Or.inr ⟨(hw _ (List.mem_of_getElem? (i := 2) rfl)), (hw _ (List.mem_of_getElem? (i := 16) rfl))⟩)
  have E_NVL2 : Exa s s.heap s_NVL2 "com/example/nullwise/nullwise/Function" := Exa.start ev_NVL2 u6
  obtain ⟨s_ATLEASTNNONNULLS, ev_ATLEASTNNONNULLS⟩ := exa_v u8
  have S_ATLEASTNNONNULLS : Sta s s.heap "com/example/nullwise/nullwise/Function" "ATLEASTNNONNULLS" "Lcom/example/nullwise/nullwise/Function;" (.ref s_ATLEASTNNONNULLS) := Sta.start ev_ATLEASTNNONNULLS (Or.inr ⟨(hw _ (List.mem_of_getElem? (i := 2) rfl)), (hw _ (List.mem_of_getElem? (i := 18) rfl))⟩)
  have E_ATLEASTNNONNULLS : Exa s s.heap s_ATLEASTNNONNULLS "com/example/nullwise/nullwise/Function" := Exa.start ev_ATLEASTNNONNULLS u8
  obtain ⟨s_CONCAT, ev_CONCAT⟩ := exa_v u10
  have S_CONCAT : Sta s s.heap "com/example/nullwise/nullwise/Function" "CONCAT" "Lcom/example/nullwise/nullwise/Function;" (.ref s_CONCAT) := Sta.start ev_CONCAT (Or.inr ⟨(hw _ (List.mem_of_getElem? (i := 2) rfl)), (hw _ (List.mem_of_getElem? (i := 20) rfl))⟩)
  have E_CONCAT : Exa s s.heap s_CONCAT "com/example/nullwise/nullwise/Function" := Exa.start ev_CONCAT u10
  obtain ⟨s_IFNULL, ev_IFNULL⟩ := exa_v u13
  have S_IFNULL : Sta s s.heap "com/example/nullwise/nullwise/Function" "IFNULL" "Lcom/example/nullwise/nullwise/Function;" (.ref s_IFNULL) := Sta.start ev_IFNULL (Or.inr ⟨(hw _ (List.mem_of_getElem? (i := 2) rfl)), (hw _ (List.mem_of_getElem? (i := 22) rfl))⟩)
  have E_IFNULL : Exa s s.heap s_IFNULL "com/example/nullwise/nullwise/Function" := Exa.start ev_IFNULL u13
  obtain ⟨s_NULLIF, ev_NULLIF⟩ := exa_v u16
  have S_NULLIF : Sta s s.heap "com/example/nullwise/nullwise/Function" "NULLIF" "Lcom/example/nullwise/nullwise/Function;" (.ref s_NULLIF) := Sta.start ev_NULLIF (Or.inr ⟨(hw _ (List.mem_of_getElem? (i := 2) rfl)), (hw _ (List.mem_of_getElem? (i := 24) rfl))⟩)
  have E_NULLIF : Exa s s.heap s_NULLIF "com/example/nullwise/nullwise/Function" := Exa.start ev_NULLIF u16
  obtain ⟨s_COALESCE, ev_COALESCE⟩ := exa_v u19
  have S_COALESCE : Sta s s.heap "com/example/nullwise/nullwise/Function" "COALESCE" "Lcom/example/nullwise/nullwise/Function;" (.ref s_COALESCE) := Sta.start ev_COALESCE (Or.inr ⟨(hw _ (List.mem_of_getElem? (i := 2) rfl)), (hw _ (List.mem_of_getElem? (i := 26) rfl))⟩)
  have E_COALESCE : Exa s s.heap s_COALESCE "com/example/nullwise/nullwise/Function" := Exa.start ev_COALESCE u19
  have F_fewestArguments_ABS : Fld s s.heap s_ABS "com/example/nullwise/nullwise/Function" "fewestArguments" "I" (.int (1 : Int32)) := own_fldEq ev_ABS u1
  have F_mostArguments_ABS : Fld s s.heap s_ABS "com/example/nullwise/nullwise/Function" "mostArguments" "I" (.int (1 : Int32)) := own_fldEq ev_ABS u2
  have F_fewestArguments_RANGE : Fld s s.heap s_RANGE "com/example/nullwise/nullwise/Function" "fewestArguments" "I" (.int (2 : Int32)) := own_fldEq ev_RANGE u4
  have F_mostArguments_RANGE : Fld s s.heap s_RANGE "com/example/nullwise/nullwise/Function" "mostArguments" "I" (.int (3 : Int32)) := own_fldEq ev_RANGE u5
  have F_fewestArguments_NVL2 : Fld s s.heap s_NVL2 "com/example/nullwise/nullwise/Function" "fewestArguments" "I" (.int (3 : Int32)) := own_fldEq ev_NVL2 u7
  have F_fewestArguments_ATLEASTNNONNULLS : Fld s s.heap s_ATLEASTNNONNULLS "com/example/nullwise/nullwise/Function" "fewestArguments" "I" (.int (1 : Int32)) := own_fldEq ev_ATLEASTNNONNULLS u9
  have F_fewestArguments_CONCAT : Fld s s.heap s_CONCAT "com/example/nullwise/nullwise/Function" "fewestArguments" "I" (.int (1 : Int32)) := own_fldEq ev_CONCAT u11
  have F_mostArguments_CONCAT : Fld s s.heap s_CONCAT "com/example/nullwise/nullwise/Function" "mostArguments" "I" (.int (2147483647 : Int32)) := own_fldEq ev_CONCAT u12
  have F_fewestArguments_IFNULL : Fld s s.heap s_IFNULL "com/example/nullwise/nullwise/Function" "fewestArguments" "I" (.int (2 : Int32)) := own_fldEq ev_IFNULL u14
  have F_mostArguments_IFNULL : Fld s s.heap s_IFNULL "com/example/nullwise/nullwise/Function" "mostArguments" "I" (.int (2 : Int32)) := own_fldEq ev_IFNULL u15
  have F_fewestArguments_NULLIF : Fld s s.heap s_NULLIF "com/example/nullwise/nullwise/Function" "fewestArguments" "I" (.int (2 : Int32)) := own_fldEq ev_NULLIF u17
  have F_mostArguments_NULLIF : Fld s s.heap s_NULLIF "com/example/nullwise/nullwise/Function" "mostArguments" "I" (.int (2 : Int32)) := own_fldEq ev_NULLIF u18
  have F_fewestArguments_COALESCE : Fld s s.heap s_COALESCE "com/example/nullwise/nullwise/Function" "fewestArguments" "I" (.int (1 : Int32)) := own_fldEq ev_COALESCE u20
  have F_mostArguments_COALESCE : Fld s s.heap s_COALESCE "com/example/nullwise/nullwise/Function" "mostArguments" "I" (.int (2147483647 : Int32)) := own_fldEq ev_COALESCE u21
  have F_mostArguments_ATLEASTNNONNULLS : Fld s s.heap s_ATLEASTNNONNULLS "com/example/nullwise/nullwise/Function" "mostArguments" "I" (.int (2147483647 : Int32)) := own_fldEq ev_ATLEASTNNONNULLS u22
  have F_mostArguments_NVL2 : Fld s s.heap s_NVL2 "com/example/nullwise/nullwise/Function" "mostArguments" "I" (.int (3 : Int32)) := own_fldEq ev_NVL2 u23
  obtain ⟨n, o, h1, h2, h3, _, L, rfl, Qv, hq⟩ := rm0 l s _ hw tables_1 i0 i1 i2 s_ABS s_RANGE s_NVL2 s_ATLEASTNNONNULLS s_CONCAT s_IFNULL s_NULLIF s_COALESCE s.heap S_ABS E_ABS F_fewestArguments_ABS F_mostArguments_ABS S_RANGE E_RANGE F_fewestArguments_RANGE F_mostArguments_RANGE S_NVL2 E_NVL2 F_fewestArguments_NVL2 S_ATLEASTNNONNULLS E_ATLEASTNNONNULLS F_fewestArguments_ATLEASTNNONNULLS S_CONCAT E_CONCAT F_fewestArguments_CONCAT F_mostArguments_CONCAT S_IFNULL E_IFNULL F_fewestArguments_IFNULL F_mostArguments_IFNULL S_NULLIF E_NULLIF F_fewestArguments_NULLIF F_mostArguments_NULLIF S_COALESCE E_COALESCE F_fewestArguments_COALESCE F_mostArguments_COALESCE F_mostArguments_ATLEASTNNONNULLS F_mostArguments_NVL2 p e ha hc hk s m _ below hf ((Spec.applies_iff_loose hf).mp happ).1 ⟨rfl, State.Warmed39.refl s, rfl⟩ trivial
  obtain ⟨rfl, rfl, -⟩ := Qv
  have N := Fr.nil s.heap.size
  refine ⟨n, _, h1, h2, h3, hpost _ _ _ _ _ _ ⟨Cond.after_iff.mpr rfl, Cond.after_iff.mpr (eq_i res_at (Term.int_eval (1)) rfl), trivial⟩ ⟨hq.1, hq.2.1, (hq.2.2.sift fun y hy => Or.inr (N y hy)).mono (by decide) (by decide)⟩⟩
theorem main_1_1 : Claimed_1_1 := comes_1 fun _ _ _ _ _ _ h hF => ⟨h.1, hF⟩
theorem main_1_2 : Claimed_1_2 := comes_1 fun _ _ _ _ _ _ h hF => ⟨h.2.1, hF⟩
end Jvm.Pilot.@@N@@
namespace Jvm.Pilot.@@N@@
open Jvm Jvm.ClassFile Sem Op Lib Jvm.Free Jvm.Stand Jvm.Pilot.@@N@@.Jvm.D
/-! MADE BY PROGRAM (witnessworld.py) out of the Statement's table words and the real class files: 12 classes; the members and pool entries that the words name. The judged class is class 1, her method 1. -/
namespace start1
open Jvm.ClassFile
def u (s : String) : CpInfo := .utf8 (stringToUtf16 s)
/-- a pool by its gaps: so many unusable entries, then the entry; so many at the end -/
def gap : Nat → List CpInfo → List CpInfo
  | 0, r => r
  | n + 1, r => .unusable :: gap n r
def poolList (es : List (Nat × CpInfo)) (last : Nat) : List CpInfo := es.foldr (fun e r => gap e.1 (e.2 :: r)) (gap last [])
def pool (es : List (Nat × CpInfo)) (last : Nat) : Array CpInfo := ⟨poolList es last⟩
def fileOf (pool : Array CpInfo) (this : Nat) (attrs : Array Attribute := #[]) (ms : Array MethodInfo := #[]) (fl : Nat := 33) (sup : Nat := 0) (ifs : Array Nat := #[]) (fds : Array FieldInfo := #[]) : ClassFile where
  minorVersion := 0
  majorVersion := 65
  constantPool := pool
  accessFlags := fl
  thisClass := this
  superClass := sup
  interfaces := ifs
  fields := fds
  methods := ms
  attributes := attrs
def plain (name : String) (sup : Option ClassId) : Class where
  name := name
  kind := .ordinary
  loader := none
  accessFlags := 33
  super := sup
  interfaces := #[]
  cf := none
  fields := #[]
  methods := #[]
  instanceTypes := #[]
  staticTypes := #[]
  resolved := #[]
  callSites := []
  init := .initialized
  statics := none
  mirror := none

def pool0 : Array CpInfo := pool [(5, u "<init>"), (0, u "()V"), (1, .class_ 10), (1, u "java/lang/Object")] 113

def k0m0 : Method := { name := "<init>", desc := "()V", sig := { parameters := [], returnType := none }, accessFlags := 1, code := none }
/-- java/lang/Object -/
def k0 : Class := { plain "java/lang/Object" none with
  accessFlags := 33
  interfaces := #[]
  cf := some (fileOf pool0 8 #[] #[{ accessFlags := 1, nameIndex := 5, descriptorIndex := 6, attributes := #[] }] 33 0 #[] #[])
  fields := #[]
  methods := #[k0m0]
  instanceTypes := #[]
  staticTypes := #[]
  resolved := Array.replicate 124 none
  statics := none }

def pool1 : Array CpInfo := pool [(2, .class_ 4), (1, u "java/lang/Object"), (0, u "<init>"), (0, u "()V"), (0, .integer 2147483647), (2, .fieldref 11 12), (0, .class_ 13), (0, .nameAndType 14 15), (0, u "com/example/nullwise/nullwise/Function"), (0, u "ABS"), (0, u "Lcom/example/nullwise/nullwise/Function;"), (0, .fieldref 11 17), (0, .nameAndType 18 15), (0, u "RANGE"), (0, .fieldref 11 20), (0, .nameAndType 21 15), (0, u "CONCAT"), (0, .fieldref 11 23), (0, .nameAndType 24 15), (0, u "IFNULL"), (0, .fieldref 11 26), (0, .nameAndType 27 15), (0, u "NVL2"), (0, .fieldref 11 29), (0, .nameAndType 30 15), (0, u "NULLIF"), (0, .fieldref 11 32), (0, .nameAndType 33 15), (0, u "COALESCE"), (0, .fieldref 11 35), (0, .nameAndType 36 15), (0, u "ATLEASTNNONNULLS"), (0, .methodref 11 38), (0, .nameAndType 39 40), (0, u "takes"), (0, u "(I)Z"), (0, .class_ 42), (0, u "com/example/nullwise/nullwise/FunctionTakesPinLaw"), (2, u "law"), (0, u "(III)Z")] 3

def k1m0 : Method := { name := "<init>", desc := "()V", sig := { parameters := [], returnType := none }, accessFlags := 1, code := none }
def k1c1 : Code := { maxStack := 3, maxLocals := 8, code := code, exceptionTable := #[], attributes := #[] }
def k1m1 : Method := { name := "law", desc := "(III)Z", sig := { parameters := [.int, .int, .int], returnType := some .boolean }, accessFlags := 9, code := some k1c1 }
/-- com/example/nullwise/nullwise/FunctionTakesPinLaw -/
def k1 : Class := { plain "com/example/nullwise/nullwise/FunctionTakesPinLaw" (some 0) with
  accessFlags := 49
  interfaces := #[]
  cf := some (fileOf pool1 41 #[] #[{ accessFlags := 1, nameIndex := 5, descriptorIndex := 6, attributes := #[] }, { accessFlags := 9, nameIndex := 45, descriptorIndex := 46, attributes := #[] }] 49 2 #[] #[])
  fields := #[]
  methods := #[k1m0, k1m1]
  instanceTypes := #[]
  staticTypes := #[]
  resolved := Array.replicate 50 none
  statics := none }

def pool2 : Array CpInfo := pool [(1, .class_ 2), (0, u "java/lang/constant/Constable"), (0, .class_ 4), (0, u "java/lang/Object")] 6

/-- java/lang/constant/Constable -/
def k2 : Class := { plain "java/lang/constant/Constable" (some 0) with
  accessFlags := 1537
  interfaces := #[]
  cf := some (fileOf pool2 1 #[] #[] 1537 3 #[] #[])
  fields := #[]
  methods := #[]
  instanceTypes := #[]
  staticTypes := #[]
  resolved := Array.replicate 11 none
  statics := none }

def pool3 : Array CpInfo := pool [(1, .class_ 2), (0, u "java/lang/Comparable"), (0, .class_ 4), (0, u "java/lang/Object")] 7

/-- java/lang/Comparable -/
def k3 : Class := { plain "java/lang/Comparable" (some 0) with
  accessFlags := 1537
  interfaces := #[]
  cf := some (fileOf pool3 1 #[] #[] 1537 3 #[] #[])
  fields := #[]
  methods := #[]
  instanceTypes := #[]
  staticTypes := #[]
  resolved := Array.replicate 12 none
  statics := none }

def pool4 : Array CpInfo := pool [(1, .class_ 2), (0, u "java/io/Serializable"), (0, .class_ 4), (0, u "java/lang/Object")] 2

/-- java/io/Serializable -/
def k4 : Class := { plain "java/io/Serializable" (some 0) with
  accessFlags := 1537
  interfaces := #[]
  cf := some (fileOf pool4 1 #[] #[] 1537 3 #[] #[])
  fields := #[]
  methods := #[]
  instanceTypes := #[]
  staticTypes := #[]
  resolved := Array.replicate 7 none
  statics := none }

def pool5 : Array CpInfo := pool [(2, .class_ 4), (1, u "java/lang/Enum"), (0, u "name"), (0, u "Ljava/lang/String;"), (2, u "ordinal"), (0, u "I"), (1, .class_ 14), (1, u "java/lang/Object"), (4, u "hash"), (86, .class_ 108), (1, u "java/lang/Enum$EnumDesc"), (2, .class_ 112), (0, u "java/lang/constant/Constable"), (0, .class_ 114), (0, u "java/lang/Comparable"), (0, .class_ 116), (0, u "java/io/Serializable")] 87

/-- java/lang/Enum -/
def k5 : Class := { plain "java/lang/Enum" (some 0) with
  accessFlags := 1057
  interfaces := #[2, 3, 4]
  cf := some (fileOf pool5 2 #[.nestMembers #[106]] #[] 1057 12 #[111, 113, 115] #[{ accessFlags := 18, nameIndex := 5, descriptorIndex := 6, attributes := #[] }, { accessFlags := 18, nameIndex := 9, descriptorIndex := 10, attributes := #[] }, { accessFlags := 2, nameIndex := 19, descriptorIndex := 10, attributes := #[] }])
  fields := #[{ name := "name", type := (.object "java/lang/String"), accessFlags := 18, slot := 0, constantValue := 0 }, { name := "ordinal", type := .int, accessFlags := 18, slot := 1, constantValue := 0 }, { name := "hash", type := .int, accessFlags := 2, slot := 2, constantValue := 0 }]
  methods := #[]
  instanceTypes := #[(.object "java/lang/String"), .int, .int]
  staticTypes := #[]
  resolved := Array.replicate 204 none
  statics := none }

def pool6 : Array CpInfo := pool [(3, .class_ 4), (0, u "com/example/nullwise/nullwise/Function"), (2, u "ABS"), (0, u "Lcom/example/nullwise/nullwise/Function;"), (2, u "SQRT"), (2, u "EXP"), (2, u "LOG"), (2, u "LOG10"), (2, u "SIN"), (2, u "COS"), (2, u "TAN"), (2, u "ASIN"), (2, u "ACOS"), (2, u "ATAN"), (2, u "HEAD"), (2, u "SIZE"), (2, u "RANGE"), (2, u "CONCAT"), (2, u "POSITIVE"), (2, u "COALESCE"), (2, u "IFNULL"), (2, u "NVL"), (2, u "NVL2"), (2, u "NULLIF"), (2, u "ISNULL"), (2, u "ISNOTNULL"), (2, u "ISNAN"), (2, u "NANVL"), (2, u "ATLEASTNNONNULLS"), (2, u "$VALUES"), (0, u "[Lcom/example/nullwise/nullwise/Function;"), (6, .class_ 96), (1, u "java/lang/Enum"), (8, u "name"), (0, u "Ljava/lang/String;"), (2, u "dialects"), (0, u "Lcom/example/nullwise/nullwise/Function$Dialects;"), (0, .fieldref 3 112), (0, .nameAndType 113 114), (0, u "fewestArguments"), (0, u "I"), (0, .fieldref 3 116), (0, .nameAndType 117 114), (0, u "mostArguments"), (2, u "nulls"), (0, u "Lcom/example/nullwise/nullwise/Function$Nulls;"), (2, u "body"), (0, u "Lcom/example/nullwise/nullwise/Function$Body;"), (11, .class_ 139), (1, u "com/example/nullwise/nullwise/Function$Dialects"), (20, .class_ 162), (1, u "com/example/nullwise/nullwise/Function$Nulls"), (2, .class_ 167), (1, u "com/example/nullwise/nullwise/Function$Call"), (17, .class_ 187), (1, u "com/example/nullwise/nullwise/Function$Body"), (354, u "MANY"), (11, u "takes"), (0, u "(I)Z")] 139

def k6c0 : Code := { maxStack := 2, maxLocals := 2, code := prog_41_method_6_code, exceptionTable := #[], attributes := #[] }
def k6m0 : Method := { name := "takes", desc := "(I)Z", sig := { parameters := [.int], returnType := some .boolean }, accessFlags := 0, code := some k6c0 }
/-- com/example/nullwise/nullwise/Function -/
def k6 : Class := { plain "com/example/nullwise/nullwise/Function" (some 5) with
  accessFlags := 16432
  interfaces := #[]
  cf := some (fileOf pool6 3 #[.nestMembers #[165, 185, 160, 137]] #[{ accessFlags := 0, nameIndex := 554, descriptorIndex := 555, attributes := #[] }] 16432 94 #[] #[{ accessFlags := 16409, nameIndex := 7, descriptorIndex := 8, attributes := #[] }, { accessFlags := 16409, nameIndex := 11, descriptorIndex := 8, attributes := #[] }, { accessFlags := 16409, nameIndex := 14, descriptorIndex := 8, attributes := #[] }, { accessFlags := 16409, nameIndex := 17, descriptorIndex := 8, attributes := #[] }, { accessFlags := 16409, nameIndex := 20, descriptorIndex := 8, attributes := #[] }, { accessFlags := 16409, nameIndex := 23, descriptorIndex := 8, attributes := #[] }, { accessFlags := 16409, nameIndex := 26, descriptorIndex := 8, attributes := #[] }, { accessFlags := 16409, nameIndex := 29, descriptorIndex := 8, attributes := #[] }, { accessFlags := 16409, nameIndex := 32, descriptorIndex := 8, attributes := #[] }, { accessFlags := 16409, nameIndex := 35, descriptorIndex := 8, attributes := #[] }, { accessFlags := 16409, nameIndex := 38, descriptorIndex := 8, attributes := #[] }, { accessFlags := 16409, nameIndex := 41, descriptorIndex := 8, attributes := #[] }, { accessFlags := 16409, nameIndex := 44, descriptorIndex := 8, attributes := #[] }, { accessFlags := 16409, nameIndex := 47, descriptorIndex := 8, attributes := #[] }, { accessFlags := 16409, nameIndex := 50, descriptorIndex := 8, attributes := #[] }, { accessFlags := 16409, nameIndex := 53, descriptorIndex := 8, attributes := #[] }, { accessFlags := 16409, nameIndex := 56, descriptorIndex := 8, attributes := #[] }, { accessFlags := 16409, nameIndex := 59, descriptorIndex := 8, attributes := #[] }, { accessFlags := 16409, nameIndex := 62, descriptorIndex := 8, attributes := #[] }, { accessFlags := 16409, nameIndex := 65, descriptorIndex := 8, attributes := #[] }, { accessFlags := 16409, nameIndex := 68, descriptorIndex := 8, attributes := #[] }, { accessFlags := 16409, nameIndex := 71, descriptorIndex := 8, attributes := #[] }, { accessFlags := 16409, nameIndex := 74, descriptorIndex := 8, attributes := #[] }, { accessFlags := 16409, nameIndex := 77, descriptorIndex := 8, attributes := #[] }, { accessFlags := 16409, nameIndex := 80, descriptorIndex := 8, attributes := #[] }, { accessFlags := 16409, nameIndex := 83, descriptorIndex := 8, attributes := #[] }, { accessFlags := 26, nameIndex := 542, descriptorIndex := 114, attributes := #[] }, { accessFlags := 18, nameIndex := 105, descriptorIndex := 106, attributes := #[] }, { accessFlags := 18, nameIndex := 109, descriptorIndex := 110, attributes := #[] }, { accessFlags := 18, nameIndex := 113, descriptorIndex := 114, attributes := #[] }, { accessFlags := 18, nameIndex := 117, descriptorIndex := 114, attributes := #[] }, { accessFlags := 18, nameIndex := 120, descriptorIndex := 121, attributes := #[] }, { accessFlags := 18, nameIndex := 124, descriptorIndex := 125, attributes := #[] }, { accessFlags := 4122, nameIndex := 86, descriptorIndex := 87, attributes := #[] }])
  fields := #[{ name := "ABS", type := (.object "com/example/nullwise/nullwise/Function"), accessFlags := 16409, slot := 0, constantValue := 0 }, { name := "SQRT", type := (.object "com/example/nullwise/nullwise/Function"), accessFlags := 16409, slot := 1, constantValue := 0 }, { name := "EXP", type := (.object "com/example/nullwise/nullwise/Function"), accessFlags := 16409, slot := 2, constantValue := 0 }, { name := "LOG", type := (.object "com/example/nullwise/nullwise/Function"), accessFlags := 16409, slot := 3, constantValue := 0 }, { name := "LOG10", type := (.object "com/example/nullwise/nullwise/Function"), accessFlags := 16409, slot := 4, constantValue := 0 }, { name := "SIN", type := (.object "com/example/nullwise/nullwise/Function"), accessFlags := 16409, slot := 5, constantValue := 0 }, { name := "COS", type := (.object "com/example/nullwise/nullwise/Function"), accessFlags := 16409, slot := 6, constantValue := 0 }, { name := "TAN", type := (.object "com/example/nullwise/nullwise/Function"), accessFlags := 16409, slot := 7, constantValue := 0 }, { name := "ASIN", type := (.object "com/example/nullwise/nullwise/Function"), accessFlags := 16409, slot := 8, constantValue := 0 }, { name := "ACOS", type := (.object "com/example/nullwise/nullwise/Function"), accessFlags := 16409, slot := 9, constantValue := 0 }, { name := "ATAN", type := (.object "com/example/nullwise/nullwise/Function"), accessFlags := 16409, slot := 10, constantValue := 0 }, { name := "HEAD", type := (.object "com/example/nullwise/nullwise/Function"), accessFlags := 16409, slot := 11, constantValue := 0 }, { name := "SIZE", type := (.object "com/example/nullwise/nullwise/Function"), accessFlags := 16409, slot := 12, constantValue := 0 }, { name := "RANGE", type := (.object "com/example/nullwise/nullwise/Function"), accessFlags := 16409, slot := 13, constantValue := 0 }, { name := "CONCAT", type := (.object "com/example/nullwise/nullwise/Function"), accessFlags := 16409, slot := 14, constantValue := 0 }, { name := "POSITIVE", type := (.object "com/example/nullwise/nullwise/Function"), accessFlags := 16409, slot := 15, constantValue := 0 }, { name := "COALESCE", type := (.object "com/example/nullwise/nullwise/Function"), accessFlags := 16409, slot := 16, constantValue := 0 }, { name := "IFNULL", type := (.object "com/example/nullwise/nullwise/Function"), accessFlags := 16409, slot := 17, constantValue := 0 }, { name := "NVL", type := (.object "com/example/nullwise/nullwise/Function"), accessFlags := 16409, slot := 18, constantValue := 0 }, { name := "NVL2", type := (.object "com/example/nullwise/nullwise/Function"), accessFlags := 16409, slot := 19, constantValue := 0 }, { name := "NULLIF", type := (.object "com/example/nullwise/nullwise/Function"), accessFlags := 16409, slot := 20, constantValue := 0 }, { name := "ISNULL", type := (.object "com/example/nullwise/nullwise/Function"), accessFlags := 16409, slot := 21, constantValue := 0 }, { name := "ISNOTNULL", type := (.object "com/example/nullwise/nullwise/Function"), accessFlags := 16409, slot := 22, constantValue := 0 }, { name := "ISNAN", type := (.object "com/example/nullwise/nullwise/Function"), accessFlags := 16409, slot := 23, constantValue := 0 }, { name := "NANVL", type := (.object "com/example/nullwise/nullwise/Function"), accessFlags := 16409, slot := 24, constantValue := 0 }, { name := "ATLEASTNNONNULLS", type := (.object "com/example/nullwise/nullwise/Function"), accessFlags := 16409, slot := 25, constantValue := 0 }, { name := "MANY", type := .int, accessFlags := 26, slot := 26, constantValue := 0 }, { name := "name", type := (.object "java/lang/String"), accessFlags := 18, slot := 3, constantValue := 0 }, { name := "dialects", type := (.object "com/example/nullwise/nullwise/Function$Dialects"), accessFlags := 18, slot := 4, constantValue := 0 }, { name := "fewestArguments", type := .int, accessFlags := 18, slot := 5, constantValue := 0 }, { name := "mostArguments", type := .int, accessFlags := 18, slot := 6, constantValue := 0 }, { name := "nulls", type := (.object "com/example/nullwise/nullwise/Function$Nulls"), accessFlags := 18, slot := 7, constantValue := 0 }, { name := "body", type := (.object "com/example/nullwise/nullwise/Function$Body"), accessFlags := 18, slot := 8, constantValue := 0 }, { name := "$VALUES", type := (.array (.object "com/example/nullwise/nullwise/Function")), accessFlags := 4122, slot := 27, constantValue := 0 }]
  methods := #[k6m0]
  instanceTypes := #[(.object "java/lang/String"), .int, .int, (.object "java/lang/String"), (.object "com/example/nullwise/nullwise/Function$Dialects"), .int, .int, (.object "com/example/nullwise/nullwise/Function$Nulls"), (.object "com/example/nullwise/nullwise/Function$Body")]
  staticTypes := #[(.object "com/example/nullwise/nullwise/Function"), (.object "com/example/nullwise/nullwise/Function"), (.object "com/example/nullwise/nullwise/Function"), (.object "com/example/nullwise/nullwise/Function"), (.object "com/example/nullwise/nullwise/Function"), (.object "com/example/nullwise/nullwise/Function"), (.object "com/example/nullwise/nullwise/Function"), (.object "com/example/nullwise/nullwise/Function"), (.object "com/example/nullwise/nullwise/Function"), (.object "com/example/nullwise/nullwise/Function"), (.object "com/example/nullwise/nullwise/Function"), (.object "com/example/nullwise/nullwise/Function"), (.object "com/example/nullwise/nullwise/Function"), (.object "com/example/nullwise/nullwise/Function"), (.object "com/example/nullwise/nullwise/Function"), (.object "com/example/nullwise/nullwise/Function"), (.object "com/example/nullwise/nullwise/Function"), (.object "com/example/nullwise/nullwise/Function"), (.object "com/example/nullwise/nullwise/Function"), (.object "com/example/nullwise/nullwise/Function"), (.object "com/example/nullwise/nullwise/Function"), (.object "com/example/nullwise/nullwise/Function"), (.object "com/example/nullwise/nullwise/Function"), (.object "com/example/nullwise/nullwise/Function"), (.object "com/example/nullwise/nullwise/Function"), (.object "com/example/nullwise/nullwise/Function"), .int, (.array (.object "com/example/nullwise/nullwise/Function"))]
  resolved := Array.replicate 695 none
  statics := some 0 }

def pool7 : Array CpInfo := pool [(1, u "java/lang/Cloneable"), (0, .class_ 1), (0, u "java/lang/Object"), (0, .class_ 3)] 3

/-- java/lang/Cloneable -/
def k7 : Class := { plain "java/lang/Cloneable" (some 0) with
  accessFlags := 1537
  interfaces := #[]
  cf := some (fileOf pool7 2 #[] #[] 1537 4 #[] #[])
  fields := #[]
  methods := #[]
  instanceTypes := #[]
  staticTypes := #[]
  resolved := Array.replicate 8 none
  statics := none }

/-- the primitive byte -/
def k8 : Class := { plain "byte" none with kind := .primitive 'B', accessFlags := 0x411 }
/-- [B -/
def k9 : Class := { plain "[B" (some 0) with kind := .array 8 .byte, interfaces := #[7, 4], accessFlags := 1041 }

/-- the primitive int -/
def k10 : Class := { plain "int" none with kind := .primitive 'I', accessFlags := 0x411 }
/-- [I -/
def k11 : Class := { plain "[I" (some 0) with kind := .array 10 .int, interfaces := #[7, 4], accessFlags := 1041 }

def heap : Heap := #[{ cls := 6, slots := #[.ref 1, .null, .null, .null, .null, .null, .null, .null, .null, .null, .null, .null, .null, .ref 2, .ref 5, .null, .ref 8, .ref 6, .null, .ref 3, .ref 7, .null, .null, .null, .null, .ref 4, .int 0, .null], vm := .statics 6 },
  { cls := 6, slots := #[.null, .int 0, .int 0, .null, .null, .int 1, .int 1, .null, .null], vm := .none },
  { cls := 6, slots := #[.null, .int 0, .int 0, .null, .null, .int 2, .int 3, .null, .null], vm := .none },
  { cls := 6, slots := #[.null, .int 0, .int 0, .null, .null, .int 3, .int 3, .null, .null], vm := .none },
  { cls := 6, slots := #[.null, .int 0, .int 0, .null, .null, .int 1, .int 2147483647, .null, .null], vm := .none },
  { cls := 6, slots := #[.null, .int 0, .int 0, .null, .null, .int 1, .int 2147483647, .null, .null], vm := .none },
  { cls := 6, slots := #[.null, .int 0, .int 0, .null, .null, .int 2, .int 2, .null, .null], vm := .none },
  { cls := 6, slots := #[.null, .int 0, .int 0, .null, .null, .int 2, .int 2, .null, .null], vm := .none },
  { cls := 6, slots := #[.null, .int 0, .int 0, .null, .null, .int 1, .int 2147483647, .null, .null], vm := .none }]
def classes : Array Class := #[k0, k1, k2, k3, k4, k5, k6, k7, k8, k9, k10, k11]
def interned : List (Array UInt16 × Addr) := []
def slotsUsed : Nat := 100
def theMethod : MethodId := ⟨1, 1⟩
def args0 : Array Value := #[.int 5, .int 1, .int 2]
def aboutOver (below : List Frame) : State where
  vm := { classes := classes, interned := interned.toArray }
  heap := heap
  slotsUsed := slotsUsed
  threads := #[{ frames := .invoking theMethod args0 :: below }]
def below0 : List Frame := [.native { method := ⟨0, 0⟩, args := #[] }]
def about1 : State := aboutOver below0
def p0 : Program := .bare "" "" ""
def e0 : Env := launch0.env 0 0 0
theorem w_frames : about1.frames = Frame.invoking theMethod args0 :: below0 := rfl
set_option maxRecDepth 65536 in
theorem w_args : argsFit about1.vm theMethod args0 = true := by decide +kernel
set_option maxRecDepth 65536 in
theorem w_heap : heapFits about1 = true := by decide +kernel
set_option maxRecDepth 65536 in
theorem w_runnable : about1.curStatus? = some .runnable := by decide +kernel
set_option maxRecDepth 65536 in
theorem w_alone : about1.alone = true := by decide +kernel
set_option maxRecDepth 65536 in
theorem w_named : about1.methodNamed? x = some theMethod := by decide +kernel
set_option maxRecDepth 65536 in
theorem w_hears : about1.hears theMethod below0 = true := by decide +kernel
set_option maxRecDepth 65536 in
theorem w_ripe : about1.ripe theMethod args0 below0 = true := by decide +kernel
theorem w_running : about1.status = .running := rfl
set_option maxRecDepth 65536 in
theorem w_room : about1.hasRoom e0.platform room_1 = true :=
  launch0.hasRoom_least _ room_1 (by decide +kernel) (by decide +kernel) (by decide +kernel) (by decide +kernel) (by decide +kernel) (by decide +kernel)
theorem allAtoms_all (ts : List Jvm.Cond) (a : Array Jvm.Value) (st : Jvm.State) : (allAtoms ts).before a st = ts.all (fun c => c.before a st) := by
  induction ts with
  | nil => rfl
  | cons c t ih =>
    show (Jvm.Cond.and c (allAtoms t)).before a st = _
    rw [Jvm.Cond.before_and, ih, List.all_cons]
def words1 : List Jvm.Cond := Jvm.Cond.code x code maxLocals ret :: tables_1
/-- a 'code' word, met by the world's own term for the bytes: nothing is compared byte by byte -/
theorem code_word {y : MethodName} {bytes : ByteArray} {mx : Nat} {rt : Option FieldType} {a : Array Value} {s : State} {m : MethodId} {meth : Method} {c : Code} (h1 : s.methodNamed? y = some m) (h2 : s.vm.method? m = some meth) (h3 : meth.code = some c) (h4 : c.code = bytes)
    (h5 : (c.maxLocals == mx && c.exceptionTable.isEmpty && decide (c.maxStack ≤ mostOperands) && decide (meth.sig.returnType = rt) && !meth.locks && decide (parseMethodDescriptor y.desc = some meth.sig)) = true) : (Jvm.Cond.code y bytes mx rt).before a s = true := by
  simp only [Bool.and_eq_true, beq_iff_eq, Bool.not_eq_true', decide_eq_true_eq] at h5
  obtain ⟨⟨⟨⟨⟨g1, g2⟩, g3⟩, g4⟩, g5⟩, g6⟩ := h5
  simp [Cond.before, Cond.holds, Cond.value, h1, h2, h3, h4, g1, g2, g3, g4, g5, g6]
def isCode : Jvm.Cond → Bool
  | .code _ _ _ _ => true
  | _ => false
theorem all_split {L : List Jvm.Cond} {P : Jvm.Cond → Bool} (h1 : L.all (fun c => isCode c || P c) = true) (h2 : ∀ c ∈ L.filter isCode, P c = true) : L.all P = true := by
  refine List.all_eq_true.mpr fun c hc => ?_
  have h := List.all_eq_true.mp h1 c hc
  rcases Bool.eq_false_or_eq_true (isCode c) with hi | hi
  · exact h2 c (List.mem_filter.mpr ⟨hc, hi⟩)
  · simpa [hi] using h
set_option maxRecDepth 65536 in
theorem w_c0 : (Jvm.Cond.code x code maxLocals ret).before args0 about1 = true := code_word (m := ⟨1, 1⟩) (meth := k1m1) (c := k1c1) (by decide +kernel) rfl rfl rfl (by decide +kernel)
set_option maxRecDepth 65536 in
theorem w_c1 : (Jvm.Cond.code ({ cls := "com/example/nullwise/nullwise/Function", name := "takes", desc := "(I)Z" } : Jvm.MethodName) prog_41_method_6_code (2 : Nat) (Option.some Jvm.ClassFile.FieldType.boolean)).before args0 about1 = true := code_word (m := ⟨6, 0⟩) (meth := k6m0) (c := k6c0) (by decide +kernel) rfl rfl rfl (by decide +kernel)
def codes1 : List Jvm.Cond := [Jvm.Cond.code x code maxLocals ret, Jvm.Cond.code ({ cls := "com/example/nullwise/nullwise/Function", name := "takes", desc := "(I)Z" } : Jvm.MethodName) prog_41_method_6_code (2 : Nat) (Option.some Jvm.ClassFile.FieldType.boolean)]
set_option maxRecDepth 65536 in
theorem codes_eq : words1.filter isCode = codes1 := rfl
theorem w_codes : ∀ c ∈ words1.filter isCode, c.before args0 about1 = true := by
  rw [codes_eq]
  intro c hc
  simp only [codes1, List.mem_cons, List.not_mem_nil, or_false] at hc
  rcases hc with rfl | rfl
  · exact w_c0
  · exact w_c1
set_option maxRecDepth 65536 in
theorem w_t1 : (words1.take 24).all (fun c => isCode c || c.before args0 about1) = true := by decide +kernel
set_option maxRecDepth 65536 in
theorem w_t2 : (words1.drop 24).all (fun c => isCode c || c.before args0 about1) = true := by decide +kernel
theorem w_tables : (allAtoms (Jvm.Cond.code x code maxLocals ret :: tables_1)).before args0 about1 = true := by
  rw [allAtoms_all]
  show words1.all (fun c => c.before args0 about1) = true
  refine all_split ?_ w_codes
  rw [← List.take_append_drop 24 words1, List.all_append, w_t1, w_t2]
  rfl
set_option maxRecDepth 65536 in
theorem w_case : (Jvm.Cond.and given_1 narrow_1).before args0 about1 = true := by decide +kernel
theorem w_applies : (headSpec (Jvm.Cond.code x code maxLocals ret :: tables_1) room_1).applies x e0.platform about1 = true :=
  (Spec.applies_iff w_frames).mpr ⟨w_running, w_runnable, w_alone, w_named, w_hears, w_ripe, w_room, w_tables⟩
theorem atStart : AtStart classFile x code maxLocals ret World_1 tables_1 room_1 Calls_1 rest_1 Pre_1 launch0 p0 e0 about1 theMethod args0 below0 :=
  ⟨lists_1, trivial, launch0.admits_env _ _ _, launch0.least_env, fairChoices_fair.cas, fairChoices_fair.clock, w_frames, w_args, w_heap, w_applies, trivial, trivial, w_case⟩
end start1
theorem witness_1 : WitnessClaimed_1 := ⟨start1.p0, start1.e0, start1.about1, start1.theMethod, start1.args0, start1.below0, start1.atStart⟩
end Jvm.Pilot.@@N@@
