import JvmDerived
import JvmDerived.Pilot.@@N@@Statement
import JvmDerived.Pilot.@@N@@Code
set_option linter.unusedVariables false
set_option linter.unusedSimpArgs false
namespace Jvm.RoadKit
open Sem ClassFile Op Lib Jvm.Stand Jvm.Free Jvm.LawKit
section New
variable {p : Program} {l : Launch} {e : Env} {R : Room} {s : State} {m : MethodId} {args : Array Value} {below : List Frame} {meth : Method} {c : Code} {T : State} {locs : List Loc} {cells slots : Nat}
theorem retI (X : Stand p l e R s m args below meth c T locs cells slots) (hx : p.tables.exec = Jvm.exec) {pc : Nat} {Ls : Array Slot} {z : Int32} {rest : List Value} (hret : meth.sig.returnType = some .int) (hd : decode c.code pc = .ok (.ireturn, 1)) {fs : List Frame}
    (hl : ∀ (f : JFrame) (acts : List Action), f.method = m → f.locked = none → f.entered = [] → (doReturn e (T.setTop f) acts (some (.int z))).1 = T.setFrames fs) : Steps p.tables e below (T.setTop (mkF m pc Ls (.int z :: rest))) (T.setFrames fs) := by
  have hm' : T.vm.method? m = some meth := X.method'
  have hn : narrow .int (.int z) = .int z := rfl
  show Steps p.tables e below (T.setTop { method := m, pc := pc, locals := Ls, stack := _ :: rest, locked := none }) _
  jvm_step X.here [X.here.top, hx, hd, hm', hret, hn]
  first | (intro acts; rw [hl _ acts rfl rfl rfl]) | rw [hl _ _ rfl rfl rfl]
  exact Steps.refl _
abbrev vI (x : Int32) : Slot := .val (.int x)
abbrev vJ (x : Int64) : Slot := .val (.long x)
abbrev vR (x : Addr) : Slot := .val (.ref x)
abbrev iI (x : Int32) : Value := .int x
abbrev iJ (x : Int64) : Value := .long x
abbrev iR (x : Addr) : Value := .ref x
/-- from one frame to another over the same heap -/
def own_Mid (X : Stand p l e R s m args below meth c T locs cells slots) (h : Heap) (F F' : JFrame) : Prop :=
  ∃ T', Stand p l e R s m args below meth c T' locs cells slots ∧ T'.heap = h ∧ ∀ t, Steps p.tables e below (T'.setTop F') t → Steps p.tables e below (T.setTop F) t
end New
end Jvm.RoadKit
namespace Jvm.Pilot.@@N@@
open Jvm Jvm.ClassFile Sem Op Lib Jvm.Free Jvm.Stand Jvm.LawKit Jvm.RoadKit Bundle Jvm.Pilot.@@N@@.Jvm.D
theorem pd_0 : parseMethodDescriptor "(I)Z" = some ⟨[.int], some .boolean⟩ := by decide +kernel

def own_fvc (p1 : Int32) : Int32 := (nar .boolean (if p1 = (32 : Int32) then (1 : Int32) else (if p1 = (9 : Int32) then (1 : Int32) else (if (32 : Int32) < p1 then (if p1 = (127 : Int32) then (0 : Int32) else (if (255 : Int32) < p1 then (0 : Int32) else (1 : Int32))) else (0 : Int32)))))
theorem d2_0 : decode prog_7_method_5_code 0 = .ok (.iload_n 0, 1) := by decide +kernel
theorem d2_1 : decode prog_7_method_5_code 1 = .ok (.bipush 32, 2) := by decide +kernel
theorem d2_3 : decode prog_7_method_5_code 3 = .ok (.if_icmp .eq 28, 3) := by decide +kernel
theorem d2_6 : decode prog_7_method_5_code 6 = .ok (.iload_n 0, 1) := by decide +kernel
theorem d2_7 : decode prog_7_method_5_code 7 = .ok (.bipush 9, 2) := by decide +kernel
theorem d2_9 : decode prog_7_method_5_code 9 = .ok (.if_icmp .eq 22, 3) := by decide +kernel
theorem d2_12 : decode prog_7_method_5_code 12 = .ok (.iload_n 0, 1) := by decide +kernel
theorem d2_13 : decode prog_7_method_5_code 13 = .ok (.bipush 32, 2) := by decide +kernel
theorem d2_15 : decode prog_7_method_5_code 15 = .ok (.if_icmp .le 20, 3) := by decide +kernel
theorem d2_18 : decode prog_7_method_5_code 18 = .ok (.iload_n 0, 1) := by decide +kernel
theorem d2_19 : decode prog_7_method_5_code 19 = .ok (.bipush 127, 2) := by decide +kernel
theorem d2_21 : decode prog_7_method_5_code 21 = .ok (.if_icmp .eq 14, 3) := by decide +kernel
theorem d2_24 : decode prog_7_method_5_code 24 = .ok (.iload_n 0, 1) := by decide +kernel
theorem d2_25 : decode prog_7_method_5_code 25 = .ok (.sipush 255, 3) := by decide +kernel
theorem d2_28 : decode prog_7_method_5_code 28 = .ok (.if_icmp .gt 7, 3) := by decide +kernel
theorem d2_31 : decode prog_7_method_5_code 31 = .ok (.iconst 1, 1) := by decide +kernel
theorem d2_32 : decode prog_7_method_5_code 32 = .ok (.goto 4, 3) := by decide +kernel
theorem d2_35 : decode prog_7_method_5_code 35 = .ok (.iconst 0, 1) := by decide +kernel
theorem d2_36 : decode prog_7_method_5_code 36 = .ok (.ireturn, 1) := by decide +kernel
theorem pn_0 : plainName "io/headrace/core/HttpChars" = true := by first | (simp [plainName, overriddenIn]; done) | decide +kernel
theorem ef_2 (m : MethodId) (x0 : Int32) : entryFrame m #[(.int x0)] 1 = mkF m 0 #[.val (.int x0)] [] := by first | (simp [entryFrame, mkF, argsToLocals, Value.category]; done) | rfl
def Q2 (Z : State) (p1 : Int32) (h0 : Heap) (v : Option Value) (h : Heap) (L : List Loc) : Prop := v = some (.int (own_fvc p1)) ∧ L = [] ∧ h = h0
set_option maxRecDepth 65536 in
set_option maxHeartbeats 40000000 in
theorem rm2 (l : Launch) (Z : State) (a0 : Array Value) (hw : ∀ d ∈ tables_1, d.before a0 Z = true) (ws : List Jvm.Cond) (p1 : Int32) (h0 : Heap) :
    MetFree l (⟨"io/headrace/core/HttpChars", "isFieldValueChar", "(I)Z"⟩ : MethodName) (head1 (Jvm.Cond.code (⟨"io/headrace/core/HttpChars", "isFieldValueChar", "(I)Z"⟩ : MethodName) prog_7_method_5_code 1 (some .boolean) :: ws) ({ frames := 0, cells := 0, slots := 0, locals := 0 } : Room)) (fun a U => a = #[(.int p1)] ∧ Z.Warmed39 U.vm ∧ U.heap = h0) (fun _ _ _ _ _ => True) (fun _ U o U' => ∃ v L, o = .returned v ∧ Q2 Z p1 h0 v U'.heap L ∧ FrameEnd U o U' L ({ frames := 0, cells := 0, slots := 0, locals := 0 } : Room).cells ({ frames := 0, cells := 0, slots := 0, locals := 0 } : Room).slots) := by
  refine MetFree.of_bodySF (plainFor_of_name pn_0) hisR ?_
  intro p e s m args below meth c s₁ Bd hml0 hP hK
  obtain ⟨rfl, hZ, hh⟩ := hP
  have hx := Bd.exec
  have hby := Bd.bytes
  have hml : c.maxLocals = 1 := hml0
  have hown : s.vm.findClass "io/headrace/core/HttpChars" = some m.cls := findClass_of_methodNamed Bd.named
  have hnm := (name_of_methodNamed Bd.named Bd.method).1
  have X0 : Stand p l e ({ frames := 0, cells := 0, slots := 0, locals := 0 } : Room) s m #[(.int p1)] below meth c s₁ [] 0 0 := Stand.of_body Bd
  have e0 : s₁.heap = h0 := by rw [← hh, Bd.state]; rfl
  have pre0 : ∀ t, Steps p.tables e below (s₁.setTop (mkF m 0 #[.val (.int p1)] [])) t → Steps p.tables e below (s₁.setTop (entryFrame m #[(.int p1)] 1)) t := fun t k => castTop (ef_2 m p1) k
  obtain ⟨v1, hv1⟩ : ∃ z : Int32, z = (if p1 = (32 : Int32) then (1 : Int32) else (if p1 = (9 : Int32) then (1 : Int32) else (if (32 : Int32) < p1 then (if p1 = (127 : Int32) then (0 : Int32) else (if (255 : Int32) < p1 then (0 : Int32) else (1 : Int32))) else (0 : Int32)))) := ⟨_, rfl⟩
  obtain ⟨T2, X2, e2, st2⟩ : own_Mid X0 h0 (mkF m 3 #[vI p1] [iI 32, iI p1]) (mkF m 36 #[vI p1] [iI v1]) := by
    by_cases hc3 : p1 = (32 : Int32)
    · refine ⟨s₁, X0, e0, fun t kt => ?_⟩
      subst hv1
      simp only [if_pos hc3] at kt
      show Steps _ _ _ (s₁.setTop (mkF m 3 #[vI p1] [iI 32, iI p1])) _
      refine XS.icmpYes X0.here hx rfl (pc0 := 3) (pc' := 31) rfl (hb hby d2_3) rfl (teq hc3).1 (by decide) (by decide) ?_
      show Steps _ _ _ (s₁.setTop (mkF m 31 #[vI p1] [])) _
      refine XS.iconst X0.here hx rfl (hb hby d2_31) ?_
      show Steps _ _ _ (s₁.setTop (mkF m 32 #[vI p1] [iI 1])) _
      refine XS.goto X0.here hx rfl (pc0 := 32) (pc' := 36) rfl (hb hby d2_32) (by decide) (by decide) ?_
      exact kt
    · have pre5 : ∀ t, Steps p.tables e below (s₁.setTop (mkF m 9 #[vI p1] [iI 9, iI p1])) t → Steps p.tables e below (s₁.setTop (mkF m 3 #[vI p1] [iI 32, iI p1])) t := by
        intro t kt
        show Steps _ _ _ (s₁.setTop (mkF m 3 #[vI p1] [iI 32, iI p1])) _
        refine XS.icmpNo X0.here hx rfl (hb hby d2_3) rfl (feq hc3).1 ?_
        show Steps _ _ _ (s₁.setTop (mkF m 6 #[vI p1] [])) _
        refine XS.iloadN X0.here hx rfl (hb hby d2_6) rfl ?_
        show Steps _ _ _ (s₁.setTop (mkF m 7 #[vI p1] [iI p1])) _
        refine XS.bipush X0.here hx rfl (hb hby d2_7) ?_
        exact kt
      by_cases hc4 : p1 = (9 : Int32)
      · refine ⟨s₁, X0, e0, fun t kt => ?_⟩
        subst hv1
        simp only [if_neg hc3, if_pos hc4] at kt
        refine pre5 t ?_
        show Steps _ _ _ (s₁.setTop (mkF m 9 #[vI p1] [iI 9, iI p1])) _
        refine XS.icmpYes X0.here hx rfl (pc0 := 9) (pc' := 31) rfl (hb hby d2_9) rfl (teq hc4).1 (by decide) (by decide) ?_
        show Steps _ _ _ (s₁.setTop (mkF m 31 #[vI p1] [])) _
        refine XS.iconst X0.here hx rfl (hb hby d2_31) ?_
        show Steps _ _ _ (s₁.setTop (mkF m 32 #[vI p1] [iI 1])) _
        refine XS.goto X0.here hx rfl (pc0 := 32) (pc' := 36) rfl (hb hby d2_32) (by decide) (by decide) ?_
        exact kt
      · have pre7 : ∀ t, Steps p.tables e below (s₁.setTop (mkF m 15 #[vI p1] [iI 32, iI p1])) t → Steps p.tables e below (s₁.setTop (mkF m 3 #[vI p1] [iI 32, iI p1])) t := by
          intro t kt
          refine pre5 t ?_
          show Steps _ _ _ (s₁.setTop (mkF m 9 #[vI p1] [iI 9, iI p1])) _
          refine XS.icmpNo X0.here hx rfl (hb hby d2_9) rfl (feq hc4).1 ?_
          show Steps _ _ _ (s₁.setTop (mkF m 12 #[vI p1] [])) _
          refine XS.iloadN X0.here hx rfl (hb hby d2_12) rfl ?_
          show Steps _ _ _ (s₁.setTop (mkF m 13 #[vI p1] [iI p1])) _
          refine XS.bipush X0.here hx rfl (hb hby d2_13) ?_
          exact kt
        by_cases hc6 : (32 : Int32) < p1
        · have pre9 : ∀ t, Steps p.tables e below (s₁.setTop (mkF m 21 #[vI p1] [iI 127, iI p1])) t → Steps p.tables e below (s₁.setTop (mkF m 3 #[vI p1] [iI 32, iI p1])) t := by
            intro t kt
            refine pre7 t ?_
            show Steps _ _ _ (s₁.setTop (mkF m 15 #[vI p1] [iI 32, iI p1])) _
            refine XS.icmpNo X0.here hx rfl (hb hby d2_15) rfl (tlt hc6).2.2.2 ?_
            show Steps _ _ _ (s₁.setTop (mkF m 18 #[vI p1] [])) _
            refine XS.iloadN X0.here hx rfl (hb hby d2_18) rfl ?_
            show Steps _ _ _ (s₁.setTop (mkF m 19 #[vI p1] [iI p1])) _
            refine XS.bipush X0.here hx rfl (hb hby d2_19) ?_
            exact kt
          by_cases hc8 : p1 = (127 : Int32)
          · refine ⟨s₁, X0, e0, fun t kt => ?_⟩
            subst hv1
            simp only [if_neg hc3, if_neg hc4, if_pos hc6, if_pos hc8] at kt
            refine pre9 t ?_
            show Steps _ _ _ (s₁.setTop (mkF m 21 #[vI p1] [iI 127, iI p1])) _
            refine XS.icmpYes X0.here hx rfl (pc0 := 21) (pc' := 35) rfl (hb hby d2_21) rfl (teq hc8).1 (by decide) (by decide) ?_
            show Steps _ _ _ (s₁.setTop (mkF m 35 #[vI p1] [])) _
            refine XS.iconst X0.here hx rfl (hb hby d2_35) ?_
            exact kt
          · have pre11 : ∀ t, Steps p.tables e below (s₁.setTop (mkF m 28 #[vI p1] [iI 255, iI p1])) t → Steps p.tables e below (s₁.setTop (mkF m 3 #[vI p1] [iI 32, iI p1])) t := by
              intro t kt
              refine pre9 t ?_
              show Steps _ _ _ (s₁.setTop (mkF m 21 #[vI p1] [iI 127, iI p1])) _
              refine XS.icmpNo X0.here hx rfl (hb hby d2_21) rfl (feq hc8).1 ?_
              show Steps _ _ _ (s₁.setTop (mkF m 24 #[vI p1] [])) _
              refine XS.iloadN X0.here hx rfl (hb hby d2_24) rfl ?_
              show Steps _ _ _ (s₁.setTop (mkF m 25 #[vI p1] [iI p1])) _
              refine XS.sipush X0.here hx rfl (hb hby d2_25) ?_
              exact kt
            by_cases hc10 : (255 : Int32) < p1
            · refine ⟨s₁, X0, e0, fun t kt => ?_⟩
              subst hv1
              simp only [if_neg hc3, if_neg hc4, if_pos hc6, if_neg hc8, if_pos hc10] at kt
              refine pre11 t ?_
              show Steps _ _ _ (s₁.setTop (mkF m 28 #[vI p1] [iI 255, iI p1])) _
              refine XS.icmpYes X0.here hx rfl (pc0 := 28) (pc' := 35) rfl (hb hby d2_28) rfl (tlt hc10).2.2.1 (by decide) (by decide) ?_
              show Steps _ _ _ (s₁.setTop (mkF m 35 #[vI p1] [])) _
              refine XS.iconst X0.here hx rfl (hb hby d2_35) ?_
              exact kt
            · refine ⟨s₁, X0, e0, fun t kt => ?_⟩
              subst hv1
              simp only [if_neg hc3, if_neg hc4, if_pos hc6, if_neg hc8, if_neg hc10] at kt
              refine pre11 t ?_
              show Steps _ _ _ (s₁.setTop (mkF m 28 #[vI p1] [iI 255, iI p1])) _
              refine XS.icmpNo X0.here hx rfl (hb hby d2_28) rfl (flt hc10).2.2.1 ?_
              show Steps _ _ _ (s₁.setTop (mkF m 31 #[vI p1] [])) _
              refine XS.iconst X0.here hx rfl (hb hby d2_31) ?_
              show Steps _ _ _ (s₁.setTop (mkF m 32 #[vI p1] [iI 1])) _
              refine XS.goto X0.here hx rfl (pc0 := 32) (pc' := 36) rfl (hb hby d2_32) (by decide) (by decide) ?_
              exact kt
        · refine ⟨s₁, X0, e0, fun t kt => ?_⟩
          subst hv1
          simp only [if_neg hc3, if_neg hc4, if_neg hc6] at kt
          refine pre7 t ?_
          show Steps _ _ _ (s₁.setTop (mkF m 15 #[vI p1] [iI 32, iI p1])) _
          refine XS.icmpYes X0.here hx rfl (pc0 := 15) (pc' := 35) rfl (hb hby d2_15) rfl (flt hc6).2.2.2 (by decide) (by decide) ?_
          show Steps _ _ _ (s₁.setTop (mkF m 35 #[vI p1] [])) _
          refine XS.iconst X0.here hx rfl (hb hby d2_35) ?_
          exact kt
  obtain ⟨fs, hr, hrun, hended, hW, hsame⟩ := X2.leave (v := some (.int (nar .boolean v1))) (fun h => by rw [Bd.returns] at h; cases h)
  refine ⟨_, _, pre0 _ ?_, hrun, hended, _, _, rfl, ?_, ⟨_, rfl⟩, hW, hsame.mono (by decide) (by decide)⟩
  · show Steps _ _ _ (s₁.setTop (mkF m 0 #[vI p1] [])) _
    refine XS.iloadN X0.here hx rfl (hb hby d2_0) rfl ?_
    show Steps _ _ _ (s₁.setTop (mkF m 1 #[vI p1] [iI p1])) _
    refine XS.bipush X0.here hx rfl (hb hby d2_1) ?_
    show Steps _ _ _ (s₁.setTop (mkF m 3 #[vI p1] [iI 32, iI p1])) _
    refine st2 _ ?_
    show Steps _ _ _ (T2.setTop (mkF m 36 #[vI p1] [iI v1])) _
    exact retN X2 hx (t := .boolean) Bd.returns (by simp) (hb hby d2_36) hr
  · show Q2 Z p1 h0 _ T2.heap _
    rw [e2]
    exact ⟨by subst hv1; first | rfl | (simp only [own_fvc]; done) | (simp only [own_fvc]; rfl) | (simp only [own_fvc, nar] ; first | rfl | (simp; done) | decide), rfl, rfl⟩
def own_exp (p1 : Int32) : Int32 := (if p1 = (9 : Int32) then (1 : Int32) else (if p1 = (32 : Int32) then (1 : Int32) else (if (p1 < (33 : Int32) ∨ (126 : Int32) < p1) then (if (p1 < (128 : Int32) ∨ (255 : Int32) < p1) then (0 : Int32) else (1 : Int32)) else (1 : Int32))))
theorem d3_0 : decode method_2_code 0 = .ok (.iload_n 0, 1) := by decide +kernel
theorem d3_1 : decode method_2_code 1 = .ok (.bipush 9, 2) := by decide +kernel
theorem d3_3 : decode method_2_code 3 = .ok (.if_icmp .ne 5, 3) := by decide +kernel
theorem d3_6 : decode method_2_code 6 = .ok (.iconst 1, 1) := by decide +kernel
theorem d3_7 : decode method_2_code 7 = .ok (.ireturn, 1) := by decide +kernel
theorem d3_8 : decode method_2_code 8 = .ok (.iload_n 0, 1) := by decide +kernel
theorem d3_9 : decode method_2_code 9 = .ok (.bipush 32, 2) := by decide +kernel
theorem d3_11 : decode method_2_code 11 = .ok (.if_icmp .ne 5, 3) := by decide +kernel
theorem d3_14 : decode method_2_code 14 = .ok (.iconst 1, 1) := by decide +kernel
theorem d3_15 : decode method_2_code 15 = .ok (.ireturn, 1) := by decide +kernel
theorem d3_16 : decode method_2_code 16 = .ok (.iload_n 0, 1) := by decide +kernel
theorem d3_17 : decode method_2_code 17 = .ok (.bipush 33, 2) := by decide +kernel
theorem d3_19 : decode method_2_code 19 = .ok (.if_icmp .lt 11, 3) := by decide +kernel
theorem d3_22 : decode method_2_code 22 = .ok (.iload_n 0, 1) := by decide +kernel
theorem d3_23 : decode method_2_code 23 = .ok (.bipush 126, 2) := by decide +kernel
theorem d3_25 : decode method_2_code 25 = .ok (.if_icmp .gt 5, 3) := by decide +kernel
theorem d3_28 : decode method_2_code 28 = .ok (.iconst 1, 1) := by decide +kernel
theorem d3_29 : decode method_2_code 29 = .ok (.ireturn, 1) := by decide +kernel
theorem d3_30 : decode method_2_code 30 = .ok (.iload_n 0, 1) := by decide +kernel
theorem d3_31 : decode method_2_code 31 = .ok (.sipush 128, 3) := by decide +kernel
theorem d3_34 : decode method_2_code 34 = .ok (.if_icmp .lt 12, 3) := by decide +kernel
theorem d3_37 : decode method_2_code 37 = .ok (.iload_n 0, 1) := by decide +kernel
theorem d3_38 : decode method_2_code 38 = .ok (.sipush 255, 3) := by decide +kernel
theorem d3_41 : decode method_2_code 41 = .ok (.if_icmp .gt 5, 3) := by decide +kernel
theorem d3_44 : decode method_2_code 44 = .ok (.iconst 1, 1) := by decide +kernel
theorem d3_45 : decode method_2_code 45 = .ok (.ireturn, 1) := by decide +kernel
theorem d3_46 : decode method_2_code 46 = .ok (.iconst 0, 1) := by decide +kernel
theorem d3_47 : decode method_2_code 47 = .ok (.ireturn, 1) := by decide +kernel
theorem pn_1 : plainName "io/headrace/core/HttpCharsIsFieldValueCharPinLaw" = true := by first | (simp [plainName, overriddenIn]; done) | decide +kernel
theorem ef_3 (m : MethodId) (x0 : Int32) : entryFrame m #[(.int x0)] 1 = mkF m 0 #[.val (.int x0)] [] := by first | (simp [entryFrame, mkF, argsToLocals, Value.category]; done) | rfl
def Q3 (Z : State) (p1 : Int32) (h0 : Heap) (v : Option Value) (h : Heap) (L : List Loc) : Prop := v = some (.int (own_exp p1)) ∧ L = [] ∧ h = h0
set_option maxRecDepth 65536 in
set_option maxHeartbeats 40000000 in
theorem rm3 (l : Launch) (Z : State) (a0 : Array Value) (hw : ∀ d ∈ tables_1, d.before a0 Z = true) (ws : List Jvm.Cond) (p1 : Int32) (h0 : Heap) :
    MetFree l (⟨"io/headrace/core/HttpCharsIsFieldValueCharPinLaw", "expected", "(I)Z"⟩ : MethodName) (head1 (Jvm.Cond.code (⟨"io/headrace/core/HttpCharsIsFieldValueCharPinLaw", "expected", "(I)Z"⟩ : MethodName) method_2_code 1 (some .boolean) :: ws) ({ frames := 0, cells := 0, slots := 0, locals := 0 } : Room)) (fun a U => a = #[(.int p1)] ∧ Z.Warmed39 U.vm ∧ U.heap = h0) (fun _ _ _ _ _ => True) (fun _ U o U' => ∃ v L, o = .returned v ∧ Q3 Z p1 h0 v U'.heap L ∧ FrameEnd U o U' L ({ frames := 0, cells := 0, slots := 0, locals := 0 } : Room).cells ({ frames := 0, cells := 0, slots := 0, locals := 0 } : Room).slots) := by
  refine MetFree.of_bodySF (plainFor_of_name pn_1) hisR ?_
  intro p e s m args below meth c s₁ Bd hml0 hP hK
  obtain ⟨rfl, hZ, hh⟩ := hP
  have hx := Bd.exec
  have hby := Bd.bytes
  have hml : c.maxLocals = 1 := hml0
  have hown : s.vm.findClass "io/headrace/core/HttpCharsIsFieldValueCharPinLaw" = some m.cls := findClass_of_methodNamed Bd.named
  have hnm := (name_of_methodNamed Bd.named Bd.method).1
  have X0 : Stand p l e ({ frames := 0, cells := 0, slots := 0, locals := 0 } : Room) s m #[(.int p1)] below meth c s₁ [] 0 0 := Stand.of_body Bd
  have e0 : s₁.heap = h0 := by rw [← hh, Bd.state]; rfl
  have pre0 : ∀ t, Steps p.tables e below (s₁.setTop (mkF m 0 #[.val (.int p1)] [])) t → Steps p.tables e below (s₁.setTop (entryFrame m #[(.int p1)] 1)) t := fun t k => castTop (ef_3 m p1) k
  have pre2 : ∀ t, Steps p.tables e below (s₁.setTop (mkF m 3 #[vI p1] [iI 9, iI p1])) t → Steps p.tables e below (s₁.setTop (entryFrame m #[(.int p1)] 1)) t := by
    intro t kt
    refine pre0 t ?_
    show Steps _ _ _ (s₁.setTop (mkF m 0 #[vI p1] [])) _
    refine XS.iloadN X0.here hx rfl (hb hby d3_0) rfl ?_
    show Steps _ _ _ (s₁.setTop (mkF m 1 #[vI p1] [iI p1])) _
    refine XS.bipush X0.here hx rfl (hb hby d3_1) ?_
    exact kt
  by_cases hc1 : p1 = (9 : Int32)
  · obtain ⟨fs, hr, hrun, hended, hW, hsame⟩ := X0.leave (v := some (.int (1 : Int32))) (fun h => by rw [Bd.returns] at h; cases h)
    refine ⟨_, _, pre2 _ ?_, hrun, hended, _, _, rfl, ?_, ⟨_, rfl⟩, hW, hsame.mono (by decide) (by decide)⟩
    · show Steps _ _ _ (s₁.setTop (mkF m 3 #[vI p1] [iI 9, iI p1])) _
      refine XS.icmpNo X0.here hx rfl (hb hby d3_3) rfl (teq hc1).2 ?_
      show Steps _ _ _ (s₁.setTop (mkF m 6 #[vI p1] [])) _
      refine XS.iconst X0.here hx rfl (hb hby d3_6) ?_
      show Steps _ _ _ (s₁.setTop (mkF m 7 #[vI p1] [iI 1])) _
      exact retN X0 hx (t := .boolean) Bd.returns (by simp) (hb hby d3_7) hr
    · show Q3 Z p1 h0 _ s₁.heap _
      rw [e0]
      exact ⟨by first | rfl | (simp only [own_exp, if_pos hc1]; done) | (simp only [own_exp, if_pos hc1]; rfl) | (simp only [own_exp, if_pos hc1, nar] ; first | rfl | (simp; done) | decide), rfl, rfl⟩
  · have pre4 : ∀ t, Steps p.tables e below (s₁.setTop (mkF m 11 #[vI p1] [iI 32, iI p1])) t → Steps p.tables e below (s₁.setTop (entryFrame m #[(.int p1)] 1)) t := by
      intro t kt
      refine pre2 t ?_
      show Steps _ _ _ (s₁.setTop (mkF m 3 #[vI p1] [iI 9, iI p1])) _
      refine XS.icmpYes X0.here hx rfl (pc0 := 3) (pc' := 8) rfl (hb hby d3_3) rfl (feq hc1).2 (by decide) (by decide) ?_
      show Steps _ _ _ (s₁.setTop (mkF m 8 #[vI p1] [])) _
      refine XS.iloadN X0.here hx rfl (hb hby d3_8) rfl ?_
      show Steps _ _ _ (s₁.setTop (mkF m 9 #[vI p1] [iI p1])) _
      refine XS.bipush X0.here hx rfl (hb hby d3_9) ?_
      exact kt
    by_cases hc3 : p1 = (32 : Int32)
    · obtain ⟨fs, hr, hrun, hended, hW, hsame⟩ := X0.leave (v := some (.int (1 : Int32))) (fun h => by rw [Bd.returns] at h; cases h)
      refine ⟨_, _, pre4 _ ?_, hrun, hended, _, _, rfl, ?_, ⟨_, rfl⟩, hW, hsame.mono (by decide) (by decide)⟩
      · show Steps _ _ _ (s₁.setTop (mkF m 11 #[vI p1] [iI 32, iI p1])) _
        refine XS.icmpNo X0.here hx rfl (hb hby d3_11) rfl (teq hc3).2 ?_
        show Steps _ _ _ (s₁.setTop (mkF m 14 #[vI p1] [])) _
        refine XS.iconst X0.here hx rfl (hb hby d3_14) ?_
        show Steps _ _ _ (s₁.setTop (mkF m 15 #[vI p1] [iI 1])) _
        exact retN X0 hx (t := .boolean) Bd.returns (by simp) (hb hby d3_15) hr
      · show Q3 Z p1 h0 _ s₁.heap _
        rw [e0]
        exact ⟨by first | rfl | (simp only [own_exp, if_neg hc1, if_pos hc3]; done) | (simp only [own_exp, if_neg hc1, if_pos hc3]; rfl) | (simp only [own_exp, if_neg hc1, if_pos hc3, nar] ; first | rfl | (simp; done) | decide), rfl, rfl⟩
    · have pre5 : ∀ t, Steps p.tables e below (s₁.setTop (mkF m 19 #[vI p1] [iI 33, iI p1])) t → Steps p.tables e below (s₁.setTop (entryFrame m #[(.int p1)] 1)) t := by
        intro t kt
        refine pre4 t ?_
        show Steps _ _ _ (s₁.setTop (mkF m 11 #[vI p1] [iI 32, iI p1])) _
        refine XS.icmpYes X0.here hx rfl (pc0 := 11) (pc' := 16) rfl (hb hby d3_11) rfl (feq hc3).2 (by decide) (by decide) ?_
        show Steps _ _ _ (s₁.setTop (mkF m 16 #[vI p1] [])) _
        refine XS.iloadN X0.here hx rfl (hb hby d3_16) rfl ?_
        show Steps _ _ _ (s₁.setTop (mkF m 17 #[vI p1] [iI p1])) _
        refine XS.bipush X0.here hx rfl (hb hby d3_17) ?_
        exact kt
      by_cases hg6 : (p1 < (33 : Int32) ∨ (126 : Int32) < p1)
      · obtain ⟨T7, X7, e7, st7⟩ : own_Mid X0 h0 (mkF m 19 #[vI p1] [iI 33, iI p1]) (mkF m 30 #[vI p1] []) := by
          by_cases hc8 : p1 < (33 : Int32)
          · refine ⟨s₁, X0, e0, fun t kt => ?_⟩
            show Steps _ _ _ (s₁.setTop (mkF m 19 #[vI p1] [iI 33, iI p1])) _
            refine XS.icmpYes X0.here hx rfl (pc0 := 19) (pc' := 30) rfl (hb hby d3_19) rfl (tlt hc8).1 (by decide) (by decide) ?_
            exact kt
          · have pre10 : ∀ t, Steps p.tables e below (s₁.setTop (mkF m 25 #[vI p1] [iI 126, iI p1])) t → Steps p.tables e below (s₁.setTop (mkF m 19 #[vI p1] [iI 33, iI p1])) t := by
              intro t kt
              show Steps _ _ _ (s₁.setTop (mkF m 19 #[vI p1] [iI 33, iI p1])) _
              refine XS.icmpNo X0.here hx rfl (hb hby d3_19) rfl (flt hc8).1 ?_
              show Steps _ _ _ (s₁.setTop (mkF m 22 #[vI p1] [])) _
              refine XS.iloadN X0.here hx rfl (hb hby d3_22) rfl ?_
              show Steps _ _ _ (s₁.setTop (mkF m 23 #[vI p1] [iI p1])) _
              refine XS.bipush X0.here hx rfl (hb hby d3_23) ?_
              exact kt
            by_cases hc9 : (126 : Int32) < p1
            · refine ⟨s₁, X0, e0, fun t kt => ?_⟩
              refine pre10 t ?_
              show Steps _ _ _ (s₁.setTop (mkF m 25 #[vI p1] [iI 126, iI p1])) _
              refine XS.icmpYes X0.here hx rfl (pc0 := 25) (pc' := 30) rfl (hb hby d3_25) rfl (tlt hc9).2.2.1 (by decide) (by decide) ?_
              exact kt
            · exact absurd hg6 (by simp only [hc8, hc9, or_false, or_true, true_or, false_or, and_true, true_and, false_and, and_false, not_true_eq_false, not_false_eq_true])
        have pre11 : ∀ t, Steps p.tables e below (T7.setTop (mkF m 34 #[vI p1] [iI 128, iI p1])) t → Steps p.tables e below (s₁.setTop (entryFrame m #[(.int p1)] 1)) t := by
          intro t kt
          refine pre5 t ?_
          show Steps _ _ _ (s₁.setTop (mkF m 19 #[vI p1] [iI 33, iI p1])) _
          refine st7 _ ?_
          show Steps _ _ _ (T7.setTop (mkF m 30 #[vI p1] [])) _
          refine XS.iloadN X7.here hx rfl (hb hby d3_30) rfl ?_
          show Steps _ _ _ (T7.setTop (mkF m 31 #[vI p1] [iI p1])) _
          refine XS.sipush X7.here hx rfl (hb hby d3_31) ?_
          exact kt
        by_cases hg12 : (p1 < (128 : Int32) ∨ (255 : Int32) < p1)
        · obtain ⟨T13, X13, e13, st13⟩ : own_Mid X7 h0 (mkF m 34 #[vI p1] [iI 128, iI p1]) (mkF m 46 #[vI p1] []) := by
            by_cases hc14 : p1 < (128 : Int32)
            · refine ⟨T7, X7, e7, fun t kt => ?_⟩
              show Steps _ _ _ (T7.setTop (mkF m 34 #[vI p1] [iI 128, iI p1])) _
              refine XS.icmpYes X7.here hx rfl (pc0 := 34) (pc' := 46) rfl (hb hby d3_34) rfl (tlt hc14).1 (by decide) (by decide) ?_
              exact kt
            · have pre16 : ∀ t, Steps p.tables e below (T7.setTop (mkF m 41 #[vI p1] [iI 255, iI p1])) t → Steps p.tables e below (T7.setTop (mkF m 34 #[vI p1] [iI 128, iI p1])) t := by
                intro t kt
                show Steps _ _ _ (T7.setTop (mkF m 34 #[vI p1] [iI 128, iI p1])) _
                refine XS.icmpNo X7.here hx rfl (hb hby d3_34) rfl (flt hc14).1 ?_
                show Steps _ _ _ (T7.setTop (mkF m 37 #[vI p1] [])) _
                refine XS.iloadN X7.here hx rfl (hb hby d3_37) rfl ?_
                show Steps _ _ _ (T7.setTop (mkF m 38 #[vI p1] [iI p1])) _
                refine XS.sipush X7.here hx rfl (hb hby d3_38) ?_
                exact kt
              by_cases hc15 : (255 : Int32) < p1
              · refine ⟨T7, X7, e7, fun t kt => ?_⟩
                refine pre16 t ?_
                show Steps _ _ _ (T7.setTop (mkF m 41 #[vI p1] [iI 255, iI p1])) _
                refine XS.icmpYes X7.here hx rfl (pc0 := 41) (pc' := 46) rfl (hb hby d3_41) rfl (tlt hc15).2.2.1 (by decide) (by decide) ?_
                exact kt
              · exact absurd hg12 (by simp only [hc14, hc15, or_false, or_true, true_or, false_or, and_true, true_and, false_and, and_false, not_true_eq_false, not_false_eq_true])
          obtain ⟨fs, hr, hrun, hended, hW, hsame⟩ := X13.leave (v := some (.int (0 : Int32))) (fun h => by rw [Bd.returns] at h; cases h)
          refine ⟨_, _, pre11 _ ?_, hrun, hended, _, _, rfl, ?_, ⟨_, rfl⟩, hW, hsame.mono (by decide) (by decide)⟩
          · show Steps _ _ _ (T7.setTop (mkF m 34 #[vI p1] [iI 128, iI p1])) _
            refine st13 _ ?_
            show Steps _ _ _ (T13.setTop (mkF m 46 #[vI p1] [])) _
            refine XS.iconst X13.here hx rfl (hb hby d3_46) ?_
            show Steps _ _ _ (T13.setTop (mkF m 47 #[vI p1] [iI 0])) _
            exact retN X13 hx (t := .boolean) Bd.returns (by simp) (hb hby d3_47) hr
          · show Q3 Z p1 h0 _ T13.heap _
            rw [e13]
            exact ⟨by first | rfl | (simp only [own_exp, if_neg hc1, if_neg hc3, if_pos hg6, if_pos hg12]; done) | (simp only [own_exp, if_neg hc1, if_neg hc3, if_pos hg6, if_pos hg12]; rfl) | (simp only [own_exp, if_neg hc1, if_neg hc3, if_pos hg6, if_pos hg12, nar] ; first | rfl | (simp; done) | decide), rfl, rfl⟩
        · by_cases hc17 : p1 < (128 : Int32)
          · exact absurd hg12 (by simp only [hc17, or_false, or_true, true_or, false_or, and_true, true_and, false_and, and_false, not_true_eq_false, not_false_eq_true])
          · have pre19 : ∀ t, Steps p.tables e below (T7.setTop (mkF m 41 #[vI p1] [iI 255, iI p1])) t → Steps p.tables e below (s₁.setTop (entryFrame m #[(.int p1)] 1)) t := by
              intro t kt
              refine pre11 t ?_
              show Steps _ _ _ (T7.setTop (mkF m 34 #[vI p1] [iI 128, iI p1])) _
              refine XS.icmpNo X7.here hx rfl (hb hby d3_34) rfl (flt hc17).1 ?_
              show Steps _ _ _ (T7.setTop (mkF m 37 #[vI p1] [])) _
              refine XS.iloadN X7.here hx rfl (hb hby d3_37) rfl ?_
              show Steps _ _ _ (T7.setTop (mkF m 38 #[vI p1] [iI p1])) _
              refine XS.sipush X7.here hx rfl (hb hby d3_38) ?_
              exact kt
            by_cases hc18 : (255 : Int32) < p1
            · exact absurd hg12 (by simp only [hc17, hc18, or_false, or_true, true_or, false_or, and_true, true_and, false_and, and_false, not_true_eq_false, not_false_eq_true])
            · obtain ⟨fs, hr, hrun, hended, hW, hsame⟩ := X7.leave (v := some (.int (1 : Int32))) (fun h => by rw [Bd.returns] at h; cases h)
              refine ⟨_, _, pre19 _ ?_, hrun, hended, _, _, rfl, ?_, ⟨_, rfl⟩, hW, hsame.mono (by decide) (by decide)⟩
              · show Steps _ _ _ (T7.setTop (mkF m 41 #[vI p1] [iI 255, iI p1])) _
                refine XS.icmpNo X7.here hx rfl (hb hby d3_41) rfl (flt hc18).2.2.1 ?_
                show Steps _ _ _ (T7.setTop (mkF m 44 #[vI p1] [])) _
                refine XS.iconst X7.here hx rfl (hb hby d3_44) ?_
                show Steps _ _ _ (T7.setTop (mkF m 45 #[vI p1] [iI 1])) _
                exact retN X7 hx (t := .boolean) Bd.returns (by simp) (hb hby d3_45) hr
              · show Q3 Z p1 h0 _ T7.heap _
                rw [e7]
                exact ⟨by first | rfl | (simp only [own_exp, if_neg hc1, if_neg hc3, if_pos hg6, if_neg hg12, if_neg hc17, if_neg hc18]; done) | (simp only [own_exp, if_neg hc1, if_neg hc3, if_pos hg6, if_neg hg12, if_neg hc17, if_neg hc18]; rfl) | (simp only [own_exp, if_neg hc1, if_neg hc3, if_pos hg6, if_neg hg12, if_neg hc17, if_neg hc18, nar] ; first | rfl | (simp; done) | decide), rfl, rfl⟩
      · by_cases hc20 : p1 < (33 : Int32)
        · exact absurd hg6 (by simp only [hc20, or_false, or_true, true_or, false_or, and_true, true_and, false_and, and_false, not_true_eq_false, not_false_eq_true])
        · have pre22 : ∀ t, Steps p.tables e below (s₁.setTop (mkF m 25 #[vI p1] [iI 126, iI p1])) t → Steps p.tables e below (s₁.setTop (entryFrame m #[(.int p1)] 1)) t := by
            intro t kt
            refine pre5 t ?_
            show Steps _ _ _ (s₁.setTop (mkF m 19 #[vI p1] [iI 33, iI p1])) _
            refine XS.icmpNo X0.here hx rfl (hb hby d3_19) rfl (flt hc20).1 ?_
            show Steps _ _ _ (s₁.setTop (mkF m 22 #[vI p1] [])) _
            refine XS.iloadN X0.here hx rfl (hb hby d3_22) rfl ?_
            show Steps _ _ _ (s₁.setTop (mkF m 23 #[vI p1] [iI p1])) _
            refine XS.bipush X0.here hx rfl (hb hby d3_23) ?_
            exact kt
          by_cases hc21 : (126 : Int32) < p1
          · exact absurd hg6 (by simp only [hc20, hc21, or_false, or_true, true_or, false_or, and_true, true_and, false_and, and_false, not_true_eq_false, not_false_eq_true])
          · obtain ⟨fs, hr, hrun, hended, hW, hsame⟩ := X0.leave (v := some (.int (1 : Int32))) (fun h => by rw [Bd.returns] at h; cases h)
            refine ⟨_, _, pre22 _ ?_, hrun, hended, _, _, rfl, ?_, ⟨_, rfl⟩, hW, hsame.mono (by decide) (by decide)⟩
            · show Steps _ _ _ (s₁.setTop (mkF m 25 #[vI p1] [iI 126, iI p1])) _
              refine XS.icmpNo X0.here hx rfl (hb hby d3_25) rfl (flt hc21).2.2.1 ?_
              show Steps _ _ _ (s₁.setTop (mkF m 28 #[vI p1] [])) _
              refine XS.iconst X0.here hx rfl (hb hby d3_28) ?_
              show Steps _ _ _ (s₁.setTop (mkF m 29 #[vI p1] [iI 1])) _
              exact retN X0 hx (t := .boolean) Bd.returns (by simp) (hb hby d3_29) hr
            · show Q3 Z p1 h0 _ s₁.heap _
              rw [e0]
              exact ⟨by first | rfl | (simp only [own_exp, if_neg hc1, if_neg hc3, if_neg hg6, if_neg hc20, if_neg hc21]; done) | (simp only [own_exp, if_neg hc1, if_neg hc3, if_neg hg6, if_neg hc20, if_neg hc21]; rfl) | (simp only [own_exp, if_neg hc1, if_neg hc3, if_neg hg6, if_neg hc20, if_neg hc21, nar] ; first | rfl | (simp; done) | decide), rfl, rfl⟩
theorem own_agree (c : Int32) : own_fvc c = own_exp c := by
  unfold own_fvc own_exp
  simp only [Int32.lt_iff_toInt_lt, ← Int32.toInt_inj]
  repeat' split
  all_goals first | rfl | (exfalso; simp at *; omega)

theorem d1_0 : decode method_3_code 0 = .ok (.iload_n 0, 1) := by decide +kernel
theorem d1_1 : decode method_3_code 1 = .ok (.invokestatic 7, 3) := by decide +kernel
theorem d1_4 : decode method_3_code 4 = .ok (.iload_n 0, 1) := by decide +kernel
theorem d1_5 : decode method_3_code 5 = .ok (.invokestatic 13, 3) := by decide +kernel
theorem d1_8 : decode method_3_code 8 = .ok (.if_icmp .ne 7, 3) := by decide +kernel
theorem d1_11 : decode method_3_code 11 = .ok (.iconst 1, 1) := by decide +kernel
theorem d1_12 : decode method_3_code 12 = .ok (.goto 4, 3) := by decide +kernel
theorem d1_16 : decode method_3_code 16 = .ok (.ireturn, 1) := by decide +kernel
theorem ef_1 (m : MethodId) (x0 : Int32) : entryFrame m #[(.int x0)] 1 = mkF m 0 #[.val (.int x0)] [] := by first | (simp [entryFrame, mkF, argsToLocals, Value.category]; done) | rfl
def Q1 (Z : State) (p1 : Int32) (h0 : Heap) (v : Option Value) (h : Heap) (L : List Loc) : Prop := v = some (.int (1 : Int32)) ∧ L = [] ∧ h = h0
set_option maxRecDepth 65536 in
set_option maxHeartbeats 40000000 in
theorem rm1 (l : Launch) (Z : State) (a0 : Array Value) (hw : ∀ d ∈ tables_1, d.before a0 Z = true) (ws : List Jvm.Cond) (p1 : Int32) (h0 : Heap) :
    MetFree l (⟨"io/headrace/core/HttpCharsIsFieldValueCharPinLaw", "agrees", "(I)Z"⟩ : MethodName) (head1 (Jvm.Cond.code (⟨"io/headrace/core/HttpCharsIsFieldValueCharPinLaw", "agrees", "(I)Z"⟩ : MethodName) method_3_code 1 (some .boolean) :: ws) ({ frames := 1, cells := 0, slots := 0, locals := 13 } : Room)) (fun a U => a = #[(.int p1)] ∧ Z.Warmed39 U.vm ∧ U.heap = h0) (fun _ _ _ _ _ => True) (fun _ U o U' => ∃ v L, o = .returned v ∧ Q1 Z p1 h0 v U'.heap L ∧ FrameEnd U o U' L ({ frames := 1, cells := 0, slots := 0, locals := 13 } : Room).cells ({ frames := 1, cells := 0, slots := 0, locals := 13 } : Room).slots) := by
  refine MetFree.of_bodySF (plainFor_of_name pn_1) hisR ?_
  intro p e s m args below meth c s₁ Bd hml0 hP hK
  obtain ⟨rfl, hZ, hh⟩ := hP
  have hx := Bd.exec
  have hby := Bd.bytes
  have hml : c.maxLocals = 1 := hml0
  have hown : s.vm.findClass "io/headrace/core/HttpCharsIsFieldValueCharPinLaw" = some m.cls := findClass_of_methodNamed Bd.named
  have hnm := (name_of_methodNamed Bd.named Bd.method).1
  have X0 : Stand p l e ({ frames := 1, cells := 0, slots := 0, locals := 13 } : Room) s m #[(.int p1)] below meth c s₁ [] 0 0 := Stand.of_body Bd
  have e0 : s₁.heap = h0 := by rw [← hh, Bd.state]; rfl
  have pre0 : ∀ t, Steps p.tables e below (s₁.setTop (mkF m 0 #[.val (.int p1)] [])) t → Steps p.tables e below (s₁.setTop (entryFrame m #[(.int p1)] 1)) t := fun t k => castTop (ef_1 m p1) k
  obtain ⟨_, _, ⟨T1, L1, k1, n1⟩, -, X1, ⟨Lc1, hQ1, l1, y1, z1⟩, st1⟩ := Jvm.LawKit.callS X0 hx (y := (⟨"io/headrace/core/HttpChars", "isFieldValueChar", "(I)Z"⟩ : MethodName)) hown (mvT hZ (hw _ (List.mem_of_getElem? (i := 4) rfl))) (mvT hZ (hw _ (List.mem_of_getElem? (i := 5) rfl))) (mvT hZ (hw _ (List.mem_of_getElem? (i := 6) rfl))) (mvT hZ (hw _ (List.mem_of_getElem? (i := 7) rfl))) (by decide) (backOf (W := 0) (rm2 l Z a0 hw [] p1 h0 ) hZ (hw _ (List.mem_of_getElem? (i := 7) rfl)) (hw _ (List.mem_of_getElem? (i := 6) rfl)) (by decide) (by decide)) (g := (mkF m 1 #[vI p1] [iI p1])) rfl (by rw [hml]; rfl) (argsL := [(.int p1)]) (rest := []) (lenOf pd_0 rfl) rfl (by show 2 * 0 + _ ≤ _; exact Nat.le_of_eq rfl) (hb hby d1_1) (fun _ _ => ⟨rfl, e0, (by decide : 0 + 0 ≤ _), (by decide : 0 + 0 ≤ _)⟩)
  dsimp only [Pt.U, Pt.locs, Pt.cells, Pt.slots] at X1 l1 y1 z1 st1 hQ1
  subst l1 y1 z1
  obtain ⟨rfl, rfl, e1⟩ := hQ1
  try rw [List.append_nil] at X1
  obtain ⟨_, _, ⟨T2, L2, k2, n2⟩, -, X2, ⟨Lc2, hQ2, l2, y2, z2⟩, st2⟩ := Jvm.LawKit.callS X1 hx (y := (⟨"io/headrace/core/HttpCharsIsFieldValueCharPinLaw", "expected", "(I)Z"⟩ : MethodName)) hown (mvT hZ (hw _ (List.mem_of_getElem? (i := 8) rfl))) (mvT hZ (hw _ (List.mem_of_getElem? (i := 9) rfl))) (mvT hZ (hw _ (List.mem_of_getElem? (i := 2) rfl))) (mvT hZ (hw _ (List.mem_of_getElem? (i := 10) rfl))) (by decide) (backOf (W := 1) (rm3 l Z a0 hw [] p1 h0 ) hZ (hw _ (List.mem_of_getElem? (i := 10) rfl)) (hw _ (List.mem_of_getElem? (i := 2) rfl)) (by decide) (by decide)) (g := (mkF m 5 #[vI p1] [iI p1, iI (own_fvc p1)])) rfl (by rw [hml]; rfl) (argsL := [(.int p1)]) (rest := [(.int (own_fvc p1))]) (lenOf pd_0 rfl) rfl (by show 2 * 0 + _ ≤ _; exact Nat.le_of_eq rfl) (hb hby d1_5) (fun _ _ => ⟨rfl, e1, (by decide : 0 + 0 ≤ _), (by decide : 0 + 0 ≤ _)⟩)
  dsimp only [Pt.U, Pt.locs, Pt.cells, Pt.slots] at X2 l2 y2 z2 st2 hQ2
  subst l2 y2 z2
  obtain ⟨rfl, rfl, e2⟩ := hQ2
  try rw [List.append_nil] at X2
  have hh3 : (own_fvc p1) = (own_exp p1) := own_agree p1
  obtain ⟨fs, hr, hrun, hended, hW, hsame⟩ := X2.leave (v := some (.int (1 : Int32))) (fun h => by rw [Bd.returns] at h; cases h)
  refine ⟨_, _, pre0 _ ?_, hrun, hended, _, _, rfl, ?_, ⟨_, rfl⟩, hW, hsame.mono (by decide) (by decide)⟩
  · show Steps _ _ _ (s₁.setTop (mkF m 0 #[vI p1] [])) _
    refine XS.iloadN X0.here hx rfl (hb hby d1_0) rfl ?_
    show Steps _ _ _ (s₁.setTop (mkF m 1 #[vI p1] [iI p1])) _
    refine st1 _ ?_
    show Steps _ _ _ (T1.setTop (mkF m 4 #[vI p1] [iI (own_fvc p1)])) _
    refine XS.iloadN X1.here hx rfl (hb hby d1_4) rfl ?_
    show Steps _ _ _ (T1.setTop (mkF m 5 #[vI p1] [iI p1, iI (own_fvc p1)])) _
    refine st2 _ ?_
    show Steps _ _ _ (T2.setTop (mkF m 8 #[vI p1] [iI (own_exp p1), iI (own_fvc p1)])) _
    refine XS.icmpNo X2.here hx rfl (hb hby d1_8) rfl (teq hh3).2 ?_
    show Steps _ _ _ (T2.setTop (mkF m 11 #[vI p1] [])) _
    refine XS.iconst X2.here hx rfl (hb hby d1_11) ?_
    show Steps _ _ _ (T2.setTop (mkF m 12 #[vI p1] [iI 1])) _
    refine XS.goto X2.here hx rfl (pc0 := 12) (pc' := 16) rfl (hb hby d1_12) (by decide) (by decide) ?_
    show Steps _ _ _ (T2.setTop (mkF m 16 #[vI p1] [iI 1])) _
    exact retN X2 hx (t := .boolean) Bd.returns (by simp) (hb hby d1_16) hr
  · show Q1 Z p1 h0 _ T2.heap _
    rw [e2]
    exact ⟨rfl, rfl, rfl⟩
theorem ef_0 (m : MethodId) (x0 : Int32) (x1 : Int32) : entryFrame m #[(.int x0), (.int x1)] maxLocals = mkF m 0 #[.val (.int x0), .val (.int x1), .unset] [] := by first | (simp [entryFrame, mkF, argsToLocals, Value.category, maxLocals]; done) | rfl
def Q0 (Z : State) (p1 : Int32) (p2 : Int32) (h0 : Heap) (v : Option Value) (h : Heap) (L : List Loc) : Prop := v = some (.int (1 : Int32)) ∧ L = [] ∧ h = h0
set_option maxRecDepth 65536 in
set_option maxHeartbeats 40000000 in
theorem rm0 (l : Launch) (Z : State) (a0 : Array Value) (hw : ∀ d ∈ tables_1, d.before a0 Z = true) (ws : List Jvm.Cond) (p1 : Int32) (p2 : Int32) (h0 : Heap) :
    MetFree l x (head1 (Jvm.Cond.code x code maxLocals ret :: ws) room_1) (fun a U => a = #[(.int p1), (.int p2)] ∧ Z.Warmed39 U.vm ∧ U.heap = h0) (fun _ _ _ _ _ => True) (fun _ U o U' => ∃ v L, o = .returned v ∧ Q0 Z p1 p2 h0 v U'.heap L ∧ FrameEnd U o U' L room_1.cells room_1.slots) := by
  refine MetFree.of_bodySF (plainFor_of_name pn_1) hisR ?_
  intro p e s m args below meth c s₁ Bd hml0 hP hK
  obtain ⟨rfl, hZ, hh⟩ := hP
  have hx := Bd.exec
  have hby := Bd.bytes
  have hml : c.maxLocals = 3 := hml0
  have hown : s.vm.findClass "io/headrace/core/HttpCharsIsFieldValueCharPinLaw" = some m.cls := findClass_of_methodNamed Bd.named
  have hnm := (name_of_methodNamed Bd.named Bd.method).1
  have X0 : Stand p l e room_1 s m #[(.int p1), (.int p2)] below meth c s₁ [] 0 0 := Stand.of_body Bd
  have e0 : s₁.heap = h0 := by rw [← hh, Bd.state]; rfl
  have pre0 : ∀ t, Steps p.tables e below (s₁.setTop (mkF m 0 #[.val (.int p1), .val (.int p2), .unset] [])) t → Steps p.tables e below (s₁.setTop (entryFrame m #[(.int p1), (.int p2)] maxLocals)) t := fun t k => castTop (ef_0 m p1 p2) k
  obtain ⟨_, _, ⟨T1, L1, k1, n1⟩, -, X1, ⟨Lc1, hQ1, l1, y1, z1⟩, st1⟩ := Jvm.LawKit.callS X0 hx (y := (⟨"io/headrace/core/HttpCharsIsFieldValueCharPinLaw", "agrees", "(I)Z"⟩ : MethodName)) hown (mvT hZ (hw _ (List.mem_of_getElem? (i := 0) rfl))) (mvT hZ (hw _ (List.mem_of_getElem? (i := 1) rfl))) (mvT hZ (hw _ (List.mem_of_getElem? (i := 2) rfl))) (mvT hZ (hw _ (List.mem_of_getElem? (i := 3) rfl))) (by decide) (backOf (W := 0) (rm1 l Z a0 hw [] p1 h0 ) hZ (hw _ (List.mem_of_getElem? (i := 3) rfl)) (hw _ (List.mem_of_getElem? (i := 2) rfl)) (by decide) (by decide)) (g := (mkF m 10 #[vI p1, vI p2, vI ((p2 &&& (511 : Int32)) - (16 : Int32))] [iI p1])) rfl (by rw [hml]; rfl) (argsL := [(.int p1)]) (rest := []) (lenOf pd_0 rfl) rfl (by show 2 * 0 + _ ≤ _; exact Nat.le_of_eq rfl) (hb hby at_10) (fun _ _ => ⟨rfl, e0, (by decide : 0 + 0 ≤ _), (by decide : 0 + 0 ≤ _)⟩)
  dsimp only [Pt.U, Pt.locs, Pt.cells, Pt.slots] at X1 l1 y1 z1 st1 hQ1
  subst l1 y1 z1
  obtain ⟨rfl, rfl, e1⟩ := hQ1
  try rw [List.append_nil] at X1
  obtain ⟨_, _, ⟨T2, L2, k2, n2⟩, -, X2, ⟨Lc2, hQ2, l2, y2, z2⟩, st2⟩ := Jvm.LawKit.callS X1 hx (y := (⟨"io/headrace/core/HttpCharsIsFieldValueCharPinLaw", "agrees", "(I)Z"⟩ : MethodName)) hown (mvT hZ (hw _ (List.mem_of_getElem? (i := 0) rfl))) (mvT hZ (hw _ (List.mem_of_getElem? (i := 1) rfl))) (mvT hZ (hw _ (List.mem_of_getElem? (i := 2) rfl))) (mvT hZ (hw _ (List.mem_of_getElem? (i := 3) rfl))) (by decide) (backOf (W := 0) (rm1 l Z a0 hw [] ((p2 &&& (511 : Int32)) - (16 : Int32)) h0 ) hZ (hw _ (List.mem_of_getElem? (i := 3) rfl)) (hw _ (List.mem_of_getElem? (i := 2) rfl)) (by decide) (by decide)) (g := (mkF m 17 #[vI p1, vI p2, vI ((p2 &&& (511 : Int32)) - (16 : Int32))] [iI ((p2 &&& (511 : Int32)) - (16 : Int32))])) rfl (by rw [hml]; rfl) (argsL := [(.int ((p2 &&& (511 : Int32)) - (16 : Int32)))]) (rest := []) (lenOf pd_0 rfl) rfl (by show 2 * 0 + _ ≤ _; exact Nat.le_of_eq rfl) (hb hby at_17) (fun _ _ => ⟨rfl, e1, (by decide : 0 + 0 ≤ _), (by decide : 0 + 0 ≤ _)⟩)
  dsimp only [Pt.U, Pt.locs, Pt.cells, Pt.slots] at X2 l2 y2 z2 st2 hQ2
  subst l2 y2 z2
  obtain ⟨rfl, rfl, e2⟩ := hQ2
  try rw [List.append_nil] at X2
  obtain ⟨fs, hr, hrun, hended, hW, hsame⟩ := X2.leave (v := some (.int (1 : Int32))) (fun h => by rw [Bd.returns] at h; cases h)
  refine ⟨_, _, pre0 _ ?_, hrun, hended, _, _, rfl, ?_, ⟨_, rfl⟩, hW, hsame.mono (by decide) (by decide)⟩
  · show Steps _ _ _ (s₁.setTop (mkF m 0 #[vI p1, vI p2, .unset] [])) _
    refine XS.iloadN X0.here hx rfl (hb hby at_0) rfl ?_
    show Steps _ _ _ (s₁.setTop (mkF m 1 #[vI p1, vI p2, .unset] [iI p2])) _
    refine XS.sipush X0.here hx rfl (hb hby at_1) ?_
    show Steps _ _ _ (s₁.setTop (mkF m 4 #[vI p1, vI p2, .unset] [iI 511, iI p2])) _
    refine XS.iand X0.here hx rfl (hb hby at_4) rfl ?_
    show Steps _ _ _ (s₁.setTop (mkF m 5 #[vI p1, vI p2, .unset] [iI (p2 &&& (511 : Int32))])) _
    refine XS.bipush X0.here hx rfl (hb hby at_5) ?_
    show Steps _ _ _ (s₁.setTop (mkF m 7 #[vI p1, vI p2, .unset] [iI 16, iI (p2 &&& (511 : Int32))])) _
    refine XS.isub X0.here hx rfl (hb hby at_7) rfl ?_
    show Steps _ _ _ (s₁.setTop (mkF m 8 #[vI p1, vI p2, .unset] [iI ((p2 &&& (511 : Int32)) - (16 : Int32))])) _
    refine XS.istoreN X0.here hx rfl (hb hby at_8) rfl (l' := #[vI p1, vI p2, vI ((p2 &&& (511 : Int32)) - (16 : Int32))]) rfl ?_
    show Steps _ _ _ (s₁.setTop (mkF m 9 #[vI p1, vI p2, vI ((p2 &&& (511 : Int32)) - (16 : Int32))] [])) _
    refine XS.iloadN X0.here hx rfl (hb hby at_9) rfl ?_
    show Steps _ _ _ (s₁.setTop (mkF m 10 #[vI p1, vI p2, vI ((p2 &&& (511 : Int32)) - (16 : Int32))] [iI p1])) _
    refine st1 _ ?_
    show Steps _ _ _ (T1.setTop (mkF m 13 #[vI p1, vI p2, vI ((p2 &&& (511 : Int32)) - (16 : Int32))] [iI 1])) _
    refine XS.ifNo X1.here hx rfl (hb hby at_13) rfl ((if0 _ _).trans (feq (by decide : ¬ ((1 : Int32) = (0 : Int32)))).1) ?_
    show Steps _ _ _ (T1.setTop (mkF m 16 #[vI p1, vI p2, vI ((p2 &&& (511 : Int32)) - (16 : Int32))] [])) _
    refine XS.iloadN X1.here hx rfl (hb hby at_16) rfl ?_
    show Steps _ _ _ (T1.setTop (mkF m 17 #[vI p1, vI p2, vI ((p2 &&& (511 : Int32)) - (16 : Int32))] [iI ((p2 &&& (511 : Int32)) - (16 : Int32))])) _
    refine st2 _ ?_
    show Steps _ _ _ (T2.setTop (mkF m 20 #[vI p1, vI p2, vI ((p2 &&& (511 : Int32)) - (16 : Int32))] [iI 1])) _
    refine XS.ifNo X2.here hx rfl (hb hby at_20) rfl ((if0 _ _).trans (feq (by decide : ¬ ((1 : Int32) = (0 : Int32)))).1) ?_
    show Steps _ _ _ (T2.setTop (mkF m 23 #[vI p1, vI p2, vI ((p2 &&& (511 : Int32)) - (16 : Int32))] [])) _
    refine XS.iconst X2.here hx rfl (hb hby at_23) ?_
    show Steps _ _ _ (T2.setTop (mkF m 24 #[vI p1, vI p2, vI ((p2 &&& (511 : Int32)) - (16 : Int32))] [iI 1])) _
    refine XS.goto X2.here hx rfl (pc0 := 24) (pc' := 28) rfl (hb hby at_24) (by decide) (by decide) ?_
    show Steps _ _ _ (T2.setTop (mkF m 28 #[vI p1, vI p2, vI ((p2 &&& (511 : Int32)) - (16 : Int32))] [iI 1])) _
    exact retN X2 hx (t := .boolean) Bd.returns (by simp) (hb hby at_28) hr
  · show Q0 Z p1 p2 h0 _ T2.heap _
    rw [e2]
    exact ⟨rfl, rfl, rfl⟩
set_option maxRecDepth 65536 in
set_option maxHeartbeats 40000000 in
theorem comes_1 {Post : Tables → Env → Array Value → State → Outcome → State → Prop} (hpost : ∀ tb e args s v u, (limb_1_1.after args s (.returned v) u = true ∧ limb_1_2.after args s (.returned v) u = true ∧ True) → FrameEnd s (.returned v) u (Jvm.fieldLocs frame_1_writes args s ++ Jvm.arrayLocs frame_1_arrays args s ++ Jvm.staticLocs frame_1_statics s) 0 0 → Post tb e args s (.returned v) u) :
    ArmFor flags0 classFile x code maxLocals ret World_1 tables_1 room_1 Calls_1 rest_1 Pre_1 Post := by
  intro l hfl _ _ p e ha hc hk s m args below hf hA hF happ hP
  obtain ⟨hcalls, hrest, hpre⟩ := hP
  obtain ⟨-, -, -, hnamed, -, -, -, hat⟩ := (Spec.applies_iff hf).mp happ
  obtain ⟨hg, hn⟩ := and_e (Cond.before_iff.mp (show (Jvm.Cond.and given_1 narrow_1).before args s = true from hpre))
  obtain ⟨gc, gr0⟩ := and_e hg
  obtain ⟨ga0, gr1⟩ := and_e gr0
  obtain ⟨w0, w1, rfl⟩ : ∃ w0 w1 : Value, args = #[w0, w1] := by
    have hs : args.size = 2 := by simpa [Cond.value, given_1] using gc
    obtain ⟨L⟩ := args
    match L, hs with
    | [w0, w1], _ => exact ⟨w0, w1, rfl⟩
  have hw := fun d (hd : d ∈ tables_1) => atoms_spec (ws := Jvm.Cond.code x code maxLocals ret :: tables_1) hat d (List.mem_cons_of_mem _ hd)
  have hfit : Fit s := fun {y c} hc i hi => by
    obtain ⟨ha, rfl⟩ := Array.getElem?_eq_some_iff.mp hc
    have q := List.all_eq_true.mp ((Array.all_eq_true_iff_forall_mem.mp hF) _ (Array.getElem_mem ha)) i (List.mem_range.mpr hi)
    simpa [Array.getElem?_eq_getElem hi] using q
  obtain ⟨i0, ei0⟩ := is_v ga0
  obtain rfl : w0 = (.int i0) := Option.some.inj ei0
  obtain ⟨i1, ei1⟩ := is_v gr1
  obtain rfl : w1 = (.int i1) := Option.some.inj ei1
  obtain ⟨n, o, h1, h2, h3, _, L, rfl, Qv, hq⟩ := rm0 l s _ hw tables_1 i0 i1  s.heap  p e ha hc hk s m _ below hf ((Spec.applies_iff_loose hf).mp happ).1 ⟨rfl, State.Warmed39.refl s, rfl⟩ trivial
  obtain ⟨rfl, rfl, -⟩ := Qv
  have N := Fr.nil s.heap.size
  refine ⟨n, _, h1, h2, h3, hpost _ _ _ _ _ _ ⟨Cond.after_iff.mpr rfl, Cond.after_iff.mpr (eq_i res_at (Term.int_eval (1)) rfl), trivial⟩ ⟨hq.1, hq.2.1, (hq.2.2.sift fun y hy => Or.inr (N y hy)).mono (by decide) (by decide)⟩⟩
theorem main_1_1 : Claimed_1_1 := comes_1 fun _ _ _ _ _ _ h hF => ⟨h.1, hF⟩
theorem main_1_2 : Claimed_1_2 := comes_1 fun _ _ _ _ _ _ h hF => ⟨h.2.1, hF⟩
end Jvm.Pilot.@@N@@
namespace Jvm.Pilot.@@N@@
open Jvm Jvm.ClassFile Sem Op Lib Jvm.Free Jvm.Stand Jvm.Pilot.@@N@@.Jvm.D
/-! MADE BY PROGRAM (witnessworld.py) out of the Statement's table words and the real class files: 9 classes; the members and pool entries that the words name. The judged class is class 1, her method 3. -/
namespace start1
open Jvm.ClassFile
def u (s : String) : CpInfo := .utf8 (stringToUtf16 s)
/-- a pool by its gaps: so many unusable entries, then the entry; so many at the end -/
def gap : Nat → List CpInfo → List CpInfo
  | 0, r => r
  | n + 1, r => .unusable :: gap n r
def poolList (es : List (Nat × CpInfo)) (last : Nat) : List CpInfo := es.foldr (fun e r => gap e.1 (e.2 :: r)) (gap last [])
def pool (es : List (Nat × CpInfo)) (last : Nat) : Array CpInfo := ⟨poolList es last⟩
def fileOf (pool : Array CpInfo) (this : Nat) (attrs : Array Attribute := #[]) (ms : Array MethodInfo := #[]) (fl : Nat := 33) (sup : Nat := 0) (ifs : Array Nat := #[]) (fds : Array FieldInfo := #[]) : ClassFile where
  minorVersion := 0
  majorVersion := 65
  constantPool := pool
  accessFlags := fl
  thisClass := this
  superClass := sup
  interfaces := ifs
  fields := fds
  methods := ms
  attributes := attrs
def plain (name : String) (sup : Option ClassId) : Class where
  name := name
  kind := .ordinary
  loader := none
  accessFlags := 33
  super := sup
  interfaces := #[]
  cf := none
  fields := #[]
  methods := #[]
  instanceTypes := #[]
  staticTypes := #[]
  resolved := #[]
  callSites := []
  init := .initialized
  statics := none
  mirror := none

def pool0 : Array CpInfo := pool [(5, u "<init>"), (0, u "()V"), (1, .class_ 10), (1, u "java/lang/Object")] 113

def k0m0 : Method := { name := "<init>", desc := "()V", sig := { parameters := [], returnType := none }, accessFlags := 1, code := none }
/-- java/lang/Object -/
def k0 : Class := { plain "java/lang/Object" none with
  accessFlags := 33
  interfaces := #[]
  cf := some (fileOf pool0 8 #[] #[{ accessFlags := 1, nameIndex := 5, descriptorIndex := 6, attributes := #[] }] 33 0 #[] #[])
  fields := #[]
  methods := #[k0m0]
  instanceTypes := #[]
  staticTypes := #[]
  resolved := Array.replicate 124 none
  statics := none }

def pool1 : Array CpInfo := pool [(2, .class_ 4), (1, u "java/lang/Object"), (0, u "<init>"), (0, u "()V"), (0, .methodref 8 9), (0, .class_ 10), (0, .nameAndType 11 12), (0, u "io/headrace/core/HttpChars"), (0, u "isFieldValueChar"), (0, u "(I)Z"), (0, .methodref 14 15), (0, .class_ 16), (0, .nameAndType 17 12), (0, u "io/headrace/core/HttpCharsIsFieldValueCharPinLaw"), (0, u "expected"), (0, .methodref 14 19), (0, .nameAndType 20 12), (0, u "agrees"), (3, u "law"), (0, u "(II)Z")] 2

def k1m0 : Method := { name := "<init>", desc := "()V", sig := { parameters := [], returnType := none }, accessFlags := 2, code := none }
def k1c1 : Code := { maxStack := 2, maxLocals := 1, code := method_2_code, exceptionTable := #[], attributes := #[] }
def k1m1 : Method := { name := "expected", desc := "(I)Z", sig := { parameters := [.int], returnType := some .boolean }, accessFlags := 10, code := some k1c1 }
def k1c2 : Code := { maxStack := 2, maxLocals := 1, code := method_3_code, exceptionTable := #[], attributes := #[] }
def k1m2 : Method := { name := "agrees", desc := "(I)Z", sig := { parameters := [.int], returnType := some .boolean }, accessFlags := 10, code := some k1c2 }
def k1c3 : Code := { maxStack := 2, maxLocals := 3, code := code, exceptionTable := #[], attributes := #[] }
def k1m3 : Method := { name := "law", desc := "(II)Z", sig := { parameters := [.int, .int], returnType := some .boolean }, accessFlags := 9, code := some k1c3 }
/-- io/headrace/core/HttpCharsIsFieldValueCharPinLaw -/
def k1 : Class := { plain "io/headrace/core/HttpCharsIsFieldValueCharPinLaw" (some 0) with
  accessFlags := 49
  interfaces := #[]
  cf := some (fileOf pool1 14 #[] #[{ accessFlags := 2, nameIndex := 5, descriptorIndex := 6, attributes := #[] }, { accessFlags := 10, nameIndex := 17, descriptorIndex := 12, attributes := #[] }, { accessFlags := 10, nameIndex := 20, descriptorIndex := 12, attributes := #[] }, { accessFlags := 9, nameIndex := 24, descriptorIndex := 25, attributes := #[] }] 49 2 #[] #[])
  fields := #[]
  methods := #[k1m0, k1m1, k1m2, k1m3]
  instanceTypes := #[]
  staticTypes := #[]
  resolved := Array.replicate 28 none
  statics := none }

def pool2 : Array CpInfo := pool [(2, .class_ 4), (1, u "java/lang/Object"), (0, u "<init>"), (0, u "()V"), (1, .class_ 10), (1, u "io/headrace/core/HttpChars"), (0, u "TCHAR"), (0, u "[Z"), (13, u "(I)Z"), (26, u "isFieldValueChar")] 7

def k2m0 : Method := { name := "<init>", desc := "()V", sig := { parameters := [], returnType := none }, accessFlags := 2, code := none }
def k2c1 : Code := { maxStack := 2, maxLocals := 1, code := prog_7_method_5_code, exceptionTable := #[], attributes := #[] }
def k2m1 : Method := { name := "isFieldValueChar", desc := "(I)Z", sig := { parameters := [.int], returnType := some .boolean }, accessFlags := 9, code := some k2c1 }
/-- io/headrace/core/HttpChars -/
def k2 : Class := { plain "io/headrace/core/HttpChars" (some 0) with
  accessFlags := 49
  interfaces := #[]
  cf := some (fileOf pool2 8 #[] #[{ accessFlags := 2, nameIndex := 5, descriptorIndex := 6, attributes := #[] }, { accessFlags := 9, nameIndex := 53, descriptorIndex := 26, attributes := #[] }] 49 2 #[] #[{ accessFlags := 26, nameIndex := 11, descriptorIndex := 12, attributes := #[] }])
  fields := #[{ name := "TCHAR", type := (.array .boolean), accessFlags := 26, slot := 0, constantValue := 0 }]
  methods := #[k2m0, k2m1]
  instanceTypes := #[]
  staticTypes := #[(.array .boolean)]
  resolved := Array.replicate 61 none
  statics := none }

def pool3 : Array CpInfo := pool [(1, u "java/lang/Cloneable"), (0, .class_ 1), (0, u "java/lang/Object"), (0, .class_ 3)] 3

/-- java/lang/Cloneable -/
def k3 : Class := { plain "java/lang/Cloneable" (some 0) with
  accessFlags := 1537
  interfaces := #[]
  cf := some (fileOf pool3 2 #[] #[] 1537 4 #[] #[])
  fields := #[]
  methods := #[]
  instanceTypes := #[]
  staticTypes := #[]
  resolved := Array.replicate 8 none
  statics := none }

def pool4 : Array CpInfo := pool [(1, u "java/io/Serializable"), (0, .class_ 1), (0, u "java/lang/Object"), (0, .class_ 3)] 3

/-- java/io/Serializable -/
def k4 : Class := { plain "java/io/Serializable" (some 0) with
  accessFlags := 1537
  interfaces := #[]
  cf := some (fileOf pool4 2 #[] #[] 1537 4 #[] #[])
  fields := #[]
  methods := #[]
  instanceTypes := #[]
  staticTypes := #[]
  resolved := Array.replicate 8 none
  statics := none }

/-- the primitive byte -/
def k5 : Class := { plain "byte" none with kind := .primitive 'B', accessFlags := 0x411 }
/-- [B -/
def k6 : Class := { plain "[B" (some 0) with kind := .array 5 .byte, interfaces := #[3, 4], accessFlags := 1041 }

/-- the primitive int -/
def k7 : Class := { plain "int" none with kind := .primitive 'I', accessFlags := 0x411 }
/-- [I -/
def k8 : Class := { plain "[I" (some 0) with kind := .array 7 .int, interfaces := #[3, 4], accessFlags := 1041 }

def heap : Heap := #[]
def classes : Array Class := #[k0, k1, k2, k3, k4, k5, k6, k7, k8]
def interned : List (Array UInt16 × Addr) := []
def slotsUsed : Nat := 0
def theMethod : MethodId := ⟨1, 3⟩
def args0 : Array Value := #[.int 5, .int 300]
def aboutOver (below : List Frame) : State where
  vm := { classes := classes, interned := interned.toArray }
  heap := heap
  slotsUsed := slotsUsed
  threads := #[{ frames := .invoking theMethod args0 :: below }]
def below0 : List Frame := [.native { method := ⟨0, 0⟩, args := #[] }]
def about1 : State := aboutOver below0
def p0 : Program := .bare "" "" ""
def e0 : Env := launch0.env 0 0 0
theorem w_frames : about1.frames = Frame.invoking theMethod args0 :: below0 := rfl
set_option maxRecDepth 65536 in
theorem w_args : argsFit about1.vm theMethod args0 = true := by decide +kernel
set_option maxRecDepth 65536 in
theorem w_heap : heapFits about1 = true := by decide +kernel
set_option maxRecDepth 65536 in
theorem w_runnable : about1.curStatus? = some .runnable := by decide +kernel
set_option maxRecDepth 65536 in
theorem w_alone : about1.alone = true := by decide +kernel
set_option maxRecDepth 65536 in
theorem w_named : about1.methodNamed? x = some theMethod := by decide +kernel
set_option maxRecDepth 65536 in
theorem w_hears : about1.hears theMethod below0 = true := by decide +kernel
set_option maxRecDepth 65536 in
theorem w_ripe : about1.ripe theMethod args0 below0 = true := by decide +kernel
theorem w_running : about1.status = .running := rfl
set_option maxRecDepth 65536 in
theorem w_room : about1.hasRoom e0.platform room_1 = true :=
  launch0.hasRoom_least _ room_1 (by decide +kernel) (by decide +kernel) (by decide +kernel) (by decide +kernel) (by decide +kernel) (by decide +kernel)
theorem allAtoms_all (ts : List Jvm.Cond) (a : Array Jvm.Value) (st : Jvm.State) : (allAtoms ts).before a st = ts.all (fun c => c.before a st) := by
  induction ts with
  | nil => rfl
  | cons c t ih =>
    show (Jvm.Cond.and c (allAtoms t)).before a st = _
    rw [Jvm.Cond.before_and, ih, List.all_cons]
def words1 : List Jvm.Cond := Jvm.Cond.code x code maxLocals ret :: tables_1
/-- a 'code' word, met by the world's own term for the bytes: nothing is compared byte by byte -/
theorem code_word {y : MethodName} {bytes : ByteArray} {mx : Nat} {rt : Option FieldType} {a : Array Value} {s : State} {m : MethodId} {meth : Method} {c : Code} (h1 : s.methodNamed? y = some m) (h2 : s.vm.method? m = some meth) (h3 : meth.code = some c) (h4 : c.code = bytes)
    (h5 : (c.maxLocals == mx && c.exceptionTable.isEmpty && decide (c.maxStack ≤ mostOperands) && decide (meth.sig.returnType = rt) && !meth.locks && decide (parseMethodDescriptor y.desc = some meth.sig)) = true) : (Jvm.Cond.code y bytes mx rt).before a s = true := by
  simp only [Bool.and_eq_true, beq_iff_eq, Bool.not_eq_true', decide_eq_true_eq] at h5
  obtain ⟨⟨⟨⟨⟨g1, g2⟩, g3⟩, g4⟩, g5⟩, g6⟩ := h5
  simp [Cond.before, Cond.holds, Cond.value, h1, h2, h3, h4, g1, g2, g3, g4, g5, g6]
def isCode : Jvm.Cond → Bool
  | .code _ _ _ _ => true
  | _ => false
theorem all_split {L : List Jvm.Cond} {P : Jvm.Cond → Bool} (h1 : L.all (fun c => isCode c || P c) = true) (h2 : ∀ c ∈ L.filter isCode, P c = true) : L.all P = true := by
  refine List.all_eq_true.mpr fun c hc => ?_
  have h := List.all_eq_true.mp h1 c hc
  rcases Bool.eq_false_or_eq_true (isCode c) with hi | hi
  · exact h2 c (List.mem_filter.mpr ⟨hc, hi⟩)
  · simpa [hi] using h
set_option maxRecDepth 65536 in
theorem w_c0 : (Jvm.Cond.code x code maxLocals ret).before args0 about1 = true := code_word (m := ⟨1, 3⟩) (meth := k1m3) (c := k1c3) (by decide +kernel) rfl rfl rfl (by decide +kernel)
set_option maxRecDepth 65536 in
theorem w_c1 : (Jvm.Cond.code ({ cls := "io/headrace/core/HttpCharsIsFieldValueCharPinLaw", name := "agrees", desc := "(I)Z" } : Jvm.MethodName) method_3_code (1 : Nat) (Option.some Jvm.ClassFile.FieldType.boolean)).before args0 about1 = true := code_word (m := ⟨1, 2⟩) (meth := k1m2) (c := k1c2) (by decide +kernel) rfl rfl rfl (by decide +kernel)
set_option maxRecDepth 65536 in
theorem w_c2 : (Jvm.Cond.code ({ cls := "io/headrace/core/HttpChars", name := "isFieldValueChar", desc := "(I)Z" } : Jvm.MethodName) prog_7_method_5_code (1 : Nat) (Option.some Jvm.ClassFile.FieldType.boolean)).before args0 about1 = true := code_word (m := ⟨2, 1⟩) (meth := k2m1) (c := k2c1) (by decide +kernel) rfl rfl rfl (by decide +kernel)
set_option maxRecDepth 65536 in
theorem w_c3 : (Jvm.Cond.code ({ cls := "io/headrace/core/HttpCharsIsFieldValueCharPinLaw", name := "expected", desc := "(I)Z" } : Jvm.MethodName) method_2_code (1 : Nat) (Option.some Jvm.ClassFile.FieldType.boolean)).before args0 about1 = true := code_word (m := ⟨1, 1⟩) (meth := k1m1) (c := k1c1) (by decide +kernel) rfl rfl rfl (by decide +kernel)
def codes1 : List Jvm.Cond := [Jvm.Cond.code x code maxLocals ret, Jvm.Cond.code ({ cls := "io/headrace/core/HttpCharsIsFieldValueCharPinLaw", name := "agrees", desc := "(I)Z" } : Jvm.MethodName) method_3_code (1 : Nat) (Option.some Jvm.ClassFile.FieldType.boolean), Jvm.Cond.code ({ cls := "io/headrace/core/HttpChars", name := "isFieldValueChar", desc := "(I)Z" } : Jvm.MethodName) prog_7_method_5_code (1 : Nat) (Option.some Jvm.ClassFile.FieldType.boolean), Jvm.Cond.code ({ cls := "io/headrace/core/HttpCharsIsFieldValueCharPinLaw", name := "expected", desc := "(I)Z" } : Jvm.MethodName) method_2_code (1 : Nat) (Option.some Jvm.ClassFile.FieldType.boolean)]
set_option maxRecDepth 65536 in
theorem codes_eq : words1.filter isCode = codes1 := rfl
theorem w_codes : ∀ c ∈ words1.filter isCode, c.before args0 about1 = true := by
  rw [codes_eq]
  intro c hc
  simp only [codes1, List.mem_cons, List.not_mem_nil, or_false] at hc
  rcases hc with rfl | rfl | rfl | rfl
  · exact w_c0
  · exact w_c1
  · exact w_c2
  · exact w_c3
set_option maxRecDepth 65536 in
theorem w_t1 : words1.all (fun c => isCode c || c.before args0 about1) = true := by decide +kernel
theorem w_tables : (allAtoms (Jvm.Cond.code x code maxLocals ret :: tables_1)).before args0 about1 = true := by
  rw [allAtoms_all]
  show words1.all (fun c => c.before args0 about1) = true
  refine all_split ?_ w_codes
  rw [w_t1]
set_option maxRecDepth 65536 in
theorem w_case : (Jvm.Cond.and given_1 narrow_1).before args0 about1 = true := by decide +kernel
theorem w_applies : (headSpec (Jvm.Cond.code x code maxLocals ret :: tables_1) room_1).applies x e0.platform about1 = true :=
  (Spec.applies_iff w_frames).mpr ⟨w_running, w_runnable, w_alone, w_named, w_hears, w_ripe, w_room, w_tables⟩
theorem atStart : AtStart classFile x code maxLocals ret World_1 tables_1 room_1 Calls_1 rest_1 Pre_1 launch0 p0 e0 about1 theMethod args0 below0 :=
  ⟨lists_1, trivial, launch0.admits_env _ _ _, launch0.least_env, fairChoices_fair.cas, fairChoices_fair.clock, w_frames, w_args, w_heap, w_applies, trivial, trivial, w_case⟩
end start1
theorem witness_1 : WitnessClaimed_1 := ⟨start1.p0, start1.e0, start1.about1, start1.theMethod, start1.args0, start1.below0, start1.atStart⟩
end Jvm.Pilot.@@N@@
