import JvmDerived
import JvmDerived.Pilot.@@N@@Statement
import JvmDerived.Pilot.@@N@@Code
set_option linter.unusedVariables false
set_option linter.unusedSimpArgs false
namespace Jvm.RoadKit
open Sem ClassFile Op Lib Jvm.Stand Jvm.Free Jvm.LawKit
section New
variable {p : Program} {l : Launch} {e : Env} {R : Room} {s : State} {m : MethodId} {args : Array Value} {below : List Frame} {meth : Method} {c : Code} {T : State} {locs : List Loc} {cells slots : Nat}
theorem retI (X : Stand p l e R s m args below meth c T locs cells slots) (hx : p.tables.exec = Jvm.exec) {pc : Nat} {Ls : Array Slot} {z : Int32} {rest : List Value} (hret : meth.sig.returnType = some .int) (hd : decode c.code pc = .ok (.ireturn, 1)) {fs : List Frame}
    (hl : ∀ (f : JFrame) (acts : List Action), f.method = m → f.locked = none → f.entered = [] → (doReturn e (T.setTop f) acts (some (.int z))).1 = T.setFrames fs) : Steps p.tables e below (T.setTop (mkF m pc Ls (.int z :: rest))) (T.setFrames fs) := by
  have hm' : T.vm.method? m = some meth := X.method'
  have hn : narrow .int (.int z) = .int z := rfl
  show Steps p.tables e below (T.setTop { method := m, pc := pc, locals := Ls, stack := _ :: rest, locked := none }) _
  jvm_step X.here [X.here.top, hx, hd, hm', hret, hn]
  first | (intro acts; rw [hl _ acts rfl rfl rfl]) | rw [hl _ _ rfl rfl rfl]
  exact Steps.refl _
abbrev vI (x : Int32) : Slot := .val (.int x)
abbrev vJ (x : Int64) : Slot := .val (.long x)
abbrev vR (x : Addr) : Slot := .val (.ref x)
abbrev iI (x : Int32) : Value := .int x
abbrev iJ (x : Int64) : Value := .long x
abbrev iR (x : Addr) : Value := .ref x
/-- from one frame to another over the same heap -/
def own_Mid (X : Stand p l e R s m args below meth c T locs cells slots) (h : Heap) (F F' : JFrame) : Prop :=
  ∃ T', Stand p l e R s m args below meth c T' locs cells slots ∧ T'.heap = h ∧ ∀ t, Steps p.tables e below (T'.setTop F') t → Steps p.tables e below (T.setTop F) t
end New
end Jvm.RoadKit
namespace Jvm.Pilot.@@N@@
open Jvm Jvm.ClassFile Sem Op Lib Jvm.Free Jvm.Stand Jvm.LawKit Jvm.RoadKit Bundle Jvm.Pilot.@@N@@.Jvm.D
theorem pd_0 : parseMethodDescriptor "(I)Z" = some ⟨[.int], some .boolean⟩ := by decide +kernel

theorem own_eqInt {args : Array Value} {s : State} {idx : List Nat} {t : Term} {k : Int32} {x : Value} (e1 : t.eval args s none idx s = some x) (h : (Jvm.Cond.eq t (Term.int k)).value args s none s idx = some true) : x = .int k := by
  have e2 : (Term.int k).eval args s none idx s = some (.int k) := Term.int_eval k
  simp only [Cond.value, e1, e2] at h
  cases x <;> simp at h
  rw [h]
theorem own_len {args : Array Value} {s : State} {t : Term} {a : Addr} {cl : Cell} {ty : FieldType} {n : Int32} (ht : t.eval args s none [] s = some (.ref a)) (A : Arr s s.heap a cl ty) (h : (Jvm.Cond.eq (Term.length t) (Term.int n)).value args s none s [] = some true) : cl.slots.size < 2 ^ 31 ∧ cl.slots.size.toInt32 = n := by
  obtain ⟨x, y, e1, e2, -, -⟩ := cmp_v (Or.inl h)
  have hx := own_eqInt e1 h
  have ha : s.arrayAt? a = some cl := A.fin (Vm.Alike.refl _)
  by_cases hl : cl.slots.size < 2 ^ 31
  · have e3 := len_f (first := s) (o := none) (idx := []) ht ha hl
    have e4 := Option.some.inj (e3.symm.trans e1)
    rw [hx] at e4
    exact ⟨hl, Value.int.inj e4⟩
  · simp [Term.eval, ht, ha, hl] at e1
theorem own_elem {args : Array Value} {s : State} {idx : List Nat} {t k : Term} {a : Addr} {cl : Cell} {j b : Int32} (ht : t.eval args s none idx s = some (.ref a)) (hj : k.eval args s none idx s = some (.int j)) (hc : s.heap[a]? = some cl) (h : (Jvm.Cond.eq (Term.elem t k) (Term.int b)).value args s none s idx = some true) : cl.slots[j.toNatClampNeg]? = some (.int b) := by
  obtain ⟨x, y, e1, e2, -, -⟩ := cmp_v (Or.inl h)
  have hx := own_eqInt e1 h
  rw [← hx]
  exact (elem_in e1 ht hj hc).2
theorem own_or {args : Array Value} {s : State} {idx : List Nat} {c d : Jvm.Cond} (h : (Jvm.Cond.or c d).value args s none s idx = some true) : c.value args s none s idx = some true ∨ d.value args s none s idx = some true := by
  cases hc : c.value args s none s idx with
  | none => simp [Cond.value, hc] at h
  | some b =>
    cases b
    · rw [Cond.or_of_right hc] at h; exact Or.inr h
    · exact Or.inl rfl

def own_ws (p1 : Int32) : Int32 := (nar .boolean (if p1 = (32 : Int32) then (1 : Int32) else (if p1 = (9 : Int32) then (1 : Int32) else (0 : Int32))))
theorem d1_0 : decode prog_7_method_4_code 0 = .ok (.iload_n 0, 1) := by decide +kernel
theorem d1_1 : decode prog_7_method_4_code 1 = .ok (.bipush 32, 2) := by decide +kernel
theorem d1_3 : decode prog_7_method_4_code 3 = .ok (.if_icmp .eq 9, 3) := by decide +kernel
theorem d1_6 : decode prog_7_method_4_code 6 = .ok (.iload_n 0, 1) := by decide +kernel
theorem d1_7 : decode prog_7_method_4_code 7 = .ok (.bipush 9, 2) := by decide +kernel
theorem d1_9 : decode prog_7_method_4_code 9 = .ok (.if_icmp .ne 7, 3) := by decide +kernel
theorem d1_12 : decode prog_7_method_4_code 12 = .ok (.iconst 1, 1) := by decide +kernel
theorem d1_13 : decode prog_7_method_4_code 13 = .ok (.goto 4, 3) := by decide +kernel
theorem d1_16 : decode prog_7_method_4_code 16 = .ok (.iconst 0, 1) := by decide +kernel
theorem d1_17 : decode prog_7_method_4_code 17 = .ok (.ireturn, 1) := by decide +kernel
theorem pn_0 : plainName "io/headrace/core/HttpChars" = true := by first | (simp [plainName, overriddenIn]; done) | decide +kernel
theorem ef_1 (m : MethodId) (x0 : Int32) : entryFrame m #[(.int x0)] 1 = mkF m 0 #[.val (.int x0)] [] := by first | (simp [entryFrame, mkF, argsToLocals, Value.category]; done) | rfl
def Q1 (Z : State) (p1 : Int32) (h0 : Heap) (v : Option Value) (h : Heap) (L : List Loc) : Prop := v = some (.int (own_ws p1)) ∧ L = [] ∧ h = h0
set_option maxRecDepth 65536 in
set_option maxHeartbeats 40000000 in
theorem rm1 (l : Launch) (Z : State) (a0 : Array Value) (hw : ∀ d ∈ tables_1, d.before a0 Z = true) (ws : List Jvm.Cond) (p1 : Int32) (h0 : Heap) :
    MetFree l (⟨"io/headrace/core/HttpChars", "isWhitespace", "(I)Z"⟩ : MethodName) (head1 (Jvm.Cond.code (⟨"io/headrace/core/HttpChars", "isWhitespace", "(I)Z"⟩ : MethodName) prog_7_method_4_code 1 (some .boolean) :: ws) ({ frames := 0, cells := 0, slots := 0, locals := 0 } : Room)) (fun a U => a = #[(.int p1)] ∧ Z.Warmed39 U.vm ∧ U.heap = h0) (fun _ _ _ _ _ => True) (fun _ U o U' => ∃ v L, o = .returned v ∧ Q1 Z p1 h0 v U'.heap L ∧ FrameEnd U o U' L ({ frames := 0, cells := 0, slots := 0, locals := 0 } : Room).cells ({ frames := 0, cells := 0, slots := 0, locals := 0 } : Room).slots) := by
  refine MetFree.of_bodySF (plainFor_of_name pn_0) hisR ?_
  intro p e s m args below meth c s₁ Bd hml0 hP hK
  obtain ⟨rfl, hZ, hh⟩ := hP
  have hx := Bd.exec
  have hby := Bd.bytes
  have hml : c.maxLocals = 1 := hml0
  have hown : s.vm.findClass "io/headrace/core/HttpChars" = some m.cls := findClass_of_methodNamed Bd.named
  have hnm := (name_of_methodNamed Bd.named Bd.method).1
  have X0 : Stand p l e ({ frames := 0, cells := 0, slots := 0, locals := 0 } : Room) s m #[(.int p1)] below meth c s₁ [] 0 0 := Stand.of_body Bd
  have e0 : s₁.heap = h0 := by rw [← hh, Bd.state]; rfl
  have pre0 : ∀ t, Steps p.tables e below (s₁.setTop (mkF m 0 #[.val (.int p1)] [])) t → Steps p.tables e below (s₁.setTop (entryFrame m #[(.int p1)] 1)) t := fun t k => castTop (ef_1 m p1) k
  obtain ⟨v1, hv1⟩ : ∃ z : Int32, z = (if p1 = (32 : Int32) then (1 : Int32) else (if p1 = (9 : Int32) then (1 : Int32) else (0 : Int32))) := ⟨_, rfl⟩
  obtain ⟨T2, X2, e2, st2⟩ : own_Mid X0 h0 (mkF m 3 #[vI p1] [iI 32, iI p1]) (mkF m 17 #[vI p1] [iI v1]) := by
    by_cases hc3 : p1 = (32 : Int32)
    · refine ⟨s₁, X0, e0, fun t kt => ?_⟩
      subst hv1
      simp only [if_pos hc3] at kt
      show Steps _ _ _ (s₁.setTop (mkF m 3 #[vI p1] [iI 32, iI p1])) _
      refine XS.icmpYes X0.here hx rfl (pc0 := 3) (pc' := 12) rfl (hb hby d1_3) rfl (teq hc3).1 (by decide) (by decide) ?_
      show Steps _ _ _ (s₁.setTop (mkF m 12 #[vI p1] [])) _
      refine XS.iconst X0.here hx rfl (hb hby d1_12) ?_
      show Steps _ _ _ (s₁.setTop (mkF m 13 #[vI p1] [iI 1])) _
      refine XS.goto X0.here hx rfl (pc0 := 13) (pc' := 17) rfl (hb hby d1_13) (by decide) (by decide) ?_
      exact kt
    · have pre5 : ∀ t, Steps p.tables e below (s₁.setTop (mkF m 9 #[vI p1] [iI 9, iI p1])) t → Steps p.tables e below (s₁.setTop (mkF m 3 #[vI p1] [iI 32, iI p1])) t := by
        intro t kt
        show Steps _ _ _ (s₁.setTop (mkF m 3 #[vI p1] [iI 32, iI p1])) _
        refine XS.icmpNo X0.here hx rfl (hb hby d1_3) rfl (feq hc3).1 ?_
        show Steps _ _ _ (s₁.setTop (mkF m 6 #[vI p1] [])) _
        refine XS.iloadN X0.here hx rfl (hb hby d1_6) rfl ?_
        show Steps _ _ _ (s₁.setTop (mkF m 7 #[vI p1] [iI p1])) _
        refine XS.bipush X0.here hx rfl (hb hby d1_7) ?_
        exact kt
      by_cases hc4 : p1 = (9 : Int32)
      · refine ⟨s₁, X0, e0, fun t kt => ?_⟩
        subst hv1
        simp only [if_neg hc3, if_pos hc4] at kt
        refine pre5 t ?_
        show Steps _ _ _ (s₁.setTop (mkF m 9 #[vI p1] [iI 9, iI p1])) _
        refine XS.icmpNo X0.here hx rfl (hb hby d1_9) rfl (teq hc4).2 ?_
        show Steps _ _ _ (s₁.setTop (mkF m 12 #[vI p1] [])) _
        refine XS.iconst X0.here hx rfl (hb hby d1_12) ?_
        show Steps _ _ _ (s₁.setTop (mkF m 13 #[vI p1] [iI 1])) _
        refine XS.goto X0.here hx rfl (pc0 := 13) (pc' := 17) rfl (hb hby d1_13) (by decide) (by decide) ?_
        exact kt
      · refine ⟨s₁, X0, e0, fun t kt => ?_⟩
        subst hv1
        simp only [if_neg hc3, if_neg hc4] at kt
        refine pre5 t ?_
        show Steps _ _ _ (s₁.setTop (mkF m 9 #[vI p1] [iI 9, iI p1])) _
        refine XS.icmpYes X0.here hx rfl (pc0 := 9) (pc' := 16) rfl (hb hby d1_9) rfl (feq hc4).2 (by decide) (by decide) ?_
        show Steps _ _ _ (s₁.setTop (mkF m 16 #[vI p1] [])) _
        refine XS.iconst X0.here hx rfl (hb hby d1_16) ?_
        exact kt
  obtain ⟨fs, hr, hrun, hended, hW, hsame⟩ := X2.leave (v := some (.int (nar .boolean v1))) (fun h => by rw [Bd.returns] at h; cases h)
  refine ⟨_, _, pre0 _ ?_, hrun, hended, _, _, rfl, ?_, ⟨_, rfl⟩, hW, hsame.mono (by decide) (by decide)⟩
  · show Steps _ _ _ (s₁.setTop (mkF m 0 #[vI p1] [])) _
    refine XS.iloadN X0.here hx rfl (hb hby d1_0) rfl ?_
    show Steps _ _ _ (s₁.setTop (mkF m 1 #[vI p1] [iI p1])) _
    refine XS.bipush X0.here hx rfl (hb hby d1_1) ?_
    show Steps _ _ _ (s₁.setTop (mkF m 3 #[vI p1] [iI 32, iI p1])) _
    refine st2 _ ?_
    show Steps _ _ _ (T2.setTop (mkF m 17 #[vI p1] [iI v1])) _
    exact retN X2 hx (t := .boolean) Bd.returns (by simp) (hb hby d1_17) hr
  · show Q1 Z p1 h0 _ T2.heap _
    rw [e2]
    exact ⟨by subst hv1; first | rfl | (simp only [own_ws]; done) | (simp only [own_ws]; rfl) | (simp only [own_ws, nar] ; first | rfl | (simp; done) | decide), rfl, rfl⟩
def own_fvc (p1 : Int32) : Int32 := (nar .boolean (if p1 = (32 : Int32) then (1 : Int32) else (if p1 = (9 : Int32) then (1 : Int32) else (if (32 : Int32) < p1 then (if p1 = (127 : Int32) then (0 : Int32) else (if (255 : Int32) < p1 then (0 : Int32) else (1 : Int32))) else (0 : Int32)))))
theorem d2_0 : decode prog_7_method_5_code 0 = .ok (.iload_n 0, 1) := by decide +kernel
theorem d2_1 : decode prog_7_method_5_code 1 = .ok (.bipush 32, 2) := by decide +kernel
theorem d2_3 : decode prog_7_method_5_code 3 = .ok (.if_icmp .eq 28, 3) := by decide +kernel
theorem d2_6 : decode prog_7_method_5_code 6 = .ok (.iload_n 0, 1) := by decide +kernel
theorem d2_7 : decode prog_7_method_5_code 7 = .ok (.bipush 9, 2) := by decide +kernel
theorem d2_9 : decode prog_7_method_5_code 9 = .ok (.if_icmp .eq 22, 3) := by decide +kernel
theorem d2_12 : decode prog_7_method_5_code 12 = .ok (.iload_n 0, 1) := by decide +kernel
theorem d2_13 : decode prog_7_method_5_code 13 = .ok (.bipush 32, 2) := by decide +kernel
theorem d2_15 : decode prog_7_method_5_code 15 = .ok (.if_icmp .le 20, 3) := by decide +kernel
theorem d2_18 : decode prog_7_method_5_code 18 = .ok (.iload_n 0, 1) := by decide +kernel
theorem d2_19 : decode prog_7_method_5_code 19 = .ok (.bipush 127, 2) := by decide +kernel
theorem d2_21 : decode prog_7_method_5_code 21 = .ok (.if_icmp .eq 14, 3) := by decide +kernel
theorem d2_24 : decode prog_7_method_5_code 24 = .ok (.iload_n 0, 1) := by decide +kernel
theorem d2_25 : decode prog_7_method_5_code 25 = .ok (.sipush 255, 3) := by decide +kernel
theorem d2_28 : decode prog_7_method_5_code 28 = .ok (.if_icmp .gt 7, 3) := by decide +kernel
theorem d2_31 : decode prog_7_method_5_code 31 = .ok (.iconst 1, 1) := by decide +kernel
theorem d2_32 : decode prog_7_method_5_code 32 = .ok (.goto 4, 3) := by decide +kernel
theorem d2_35 : decode prog_7_method_5_code 35 = .ok (.iconst 0, 1) := by decide +kernel
theorem d2_36 : decode prog_7_method_5_code 36 = .ok (.ireturn, 1) := by decide +kernel
theorem ef_2 (m : MethodId) (x0 : Int32) : entryFrame m #[(.int x0)] 1 = mkF m 0 #[.val (.int x0)] [] := by first | (simp [entryFrame, mkF, argsToLocals, Value.category]; done) | rfl
def Q2 (Z : State) (p1 : Int32) (h0 : Heap) (v : Option Value) (h : Heap) (L : List Loc) : Prop := v = some (.int (own_fvc p1)) ∧ L = [] ∧ h = h0
set_option maxRecDepth 65536 in
set_option maxHeartbeats 40000000 in
theorem rm2 (l : Launch) (Z : State) (a0 : Array Value) (hw : ∀ d ∈ tables_1, d.before a0 Z = true) (ws : List Jvm.Cond) (p1 : Int32) (h0 : Heap) :
    MetFree l (⟨"io/headrace/core/HttpChars", "isFieldValueChar", "(I)Z"⟩ : MethodName) (head1 (Jvm.Cond.code (⟨"io/headrace/core/HttpChars", "isFieldValueChar", "(I)Z"⟩ : MethodName) prog_7_method_5_code 1 (some .boolean) :: ws) ({ frames := 0, cells := 0, slots := 0, locals := 0 } : Room)) (fun a U => a = #[(.int p1)] ∧ Z.Warmed39 U.vm ∧ U.heap = h0) (fun _ _ _ _ _ => True) (fun _ U o U' => ∃ v L, o = .returned v ∧ Q2 Z p1 h0 v U'.heap L ∧ FrameEnd U o U' L ({ frames := 0, cells := 0, slots := 0, locals := 0 } : Room).cells ({ frames := 0, cells := 0, slots := 0, locals := 0 } : Room).slots) := by
  refine MetFree.of_bodySF (plainFor_of_name pn_0) hisR ?_
  intro p e s m args below meth c s₁ Bd hml0 hP hK
  obtain ⟨rfl, hZ, hh⟩ := hP
  have hx := Bd.exec
  have hby := Bd.bytes
  have hml : c.maxLocals = 1 := hml0
  have hown : s.vm.findClass "io/headrace/core/HttpChars" = some m.cls := findClass_of_methodNamed Bd.named
  have hnm := (name_of_methodNamed Bd.named Bd.method).1
  have X0 : Stand p l e ({ frames := 0, cells := 0, slots := 0, locals := 0 } : Room) s m #[(.int p1)] below meth c s₁ [] 0 0 := Stand.of_body Bd
  have e0 : s₁.heap = h0 := by rw [← hh, Bd.state]; rfl
  have pre0 : ∀ t, Steps p.tables e below (s₁.setTop (mkF m 0 #[.val (.int p1)] [])) t → Steps p.tables e below (s₁.setTop (entryFrame m #[(.int p1)] 1)) t := fun t k => castTop (ef_2 m p1) k
  obtain ⟨v1, hv1⟩ : ∃ z : Int32, z = (if p1 = (32 : Int32) then (1 : Int32) else (if p1 = (9 : Int32) then (1 : Int32) else (if (32 : Int32) < p1 then (if p1 = (127 : Int32) then (0 : Int32) else (if (255 : Int32) < p1 then (0 : Int32) else (1 : Int32))) else (0 : Int32)))) := ⟨_, rfl⟩
  obtain ⟨T2, X2, e2, st2⟩ : own_Mid X0 h0 (mkF m 3 #[vI p1] [iI 32, iI p1]) (mkF m 36 #[vI p1] [iI v1]) := by
    by_cases hc3 : p1 = (32 : Int32)
    · refine ⟨s₁, X0, e0, fun t kt => ?_⟩
      subst hv1
      simp only [if_pos hc3] at kt
      show Steps _ _ _ (s₁.setTop (mkF m 3 #[vI p1] [iI 32, iI p1])) _
      refine XS.icmpYes X0.here hx rfl (pc0 := 3) (pc' := 31) rfl (hb hby d2_3) rfl (teq hc3).1 (by decide) (by decide) ?_
      show Steps _ _ _ (s₁.setTop (mkF m 31 #[vI p1] [])) _
      refine XS.iconst X0.here hx rfl (hb hby d2_31) ?_
      show Steps _ _ _ (s₁.setTop (mkF m 32 #[vI p1] [iI 1])) _
      refine XS.goto X0.here hx rfl (pc0 := 32) (pc' := 36) rfl (hb hby d2_32) (by decide) (by decide) ?_
      exact kt
    · have pre5 : ∀ t, Steps p.tables e below (s₁.setTop (mkF m 9 #[vI p1] [iI 9, iI p1])) t → Steps p.tables e below (s₁.setTop (mkF m 3 #[vI p1] [iI 32, iI p1])) t := by
        intro t kt
        show Steps _ _ _ (s₁.setTop (mkF m 3 #[vI p1] [iI 32, iI p1])) _
        refine XS.icmpNo X0.here hx rfl (hb hby d2_3) rfl (feq hc3).1 ?_
        show Steps _ _ _ (s₁.setTop (mkF m 6 #[vI p1] [])) _
        refine XS.iloadN X0.here hx rfl (hb hby d2_6) rfl ?_
        show Steps _ _ _ (s₁.setTop (mkF m 7 #[vI p1] [iI p1])) _
        refine XS.bipush X0.here hx rfl (hb hby d2_7) ?_
        exact kt
      by_cases hc4 : p1 = (9 : Int32)
      · refine ⟨s₁, X0, e0, fun t kt => ?_⟩
        subst hv1
        simp only [if_neg hc3, if_pos hc4] at kt
        refine pre5 t ?_
        show Steps _ _ _ (s₁.setTop (mkF m 9 #[vI p1] [iI 9, iI p1])) _
        refine XS.icmpYes X0.here hx rfl (pc0 := 9) (pc' := 31) rfl (hb hby d2_9) rfl (teq hc4).1 (by decide) (by decide) ?_
        show Steps _ _ _ (s₁.setTop (mkF m 31 #[vI p1] [])) _
        refine XS.iconst X0.here hx rfl (hb hby d2_31) ?_
        show Steps _ _ _ (s₁.setTop (mkF m 32 #[vI p1] [iI 1])) _
        refine XS.goto X0.here hx rfl (pc0 := 32) (pc' := 36) rfl (hb hby d2_32) (by decide) (by decide) ?_
        exact kt
      · have pre7 : ∀ t, Steps p.tables e below (s₁.setTop (mkF m 15 #[vI p1] [iI 32, iI p1])) t → Steps p.tables e below (s₁.setTop (mkF m 3 #[vI p1] [iI 32, iI p1])) t := by
          intro t kt
          refine pre5 t ?_
          show Steps _ _ _ (s₁.setTop (mkF m 9 #[vI p1] [iI 9, iI p1])) _
          refine XS.icmpNo X0.here hx rfl (hb hby d2_9) rfl (feq hc4).1 ?_
          show Steps _ _ _ (s₁.setTop (mkF m 12 #[vI p1] [])) _
          refine XS.iloadN X0.here hx rfl (hb hby d2_12) rfl ?_
          show Steps _ _ _ (s₁.setTop (mkF m 13 #[vI p1] [iI p1])) _
          refine XS.bipush X0.here hx rfl (hb hby d2_13) ?_
          exact kt
        by_cases hc6 : (32 : Int32) < p1
        · have pre9 : ∀ t, Steps p.tables e below (s₁.setTop (mkF m 21 #[vI p1] [iI 127, iI p1])) t → Steps p.tables e below (s₁.setTop (mkF m 3 #[vI p1] [iI 32, iI p1])) t := by
            intro t kt
            refine pre7 t ?_
            show Steps _ _ _ (s₁.setTop (mkF m 15 #[vI p1] [iI 32, iI p1])) _
            refine XS.icmpNo X0.here hx rfl (hb hby d2_15) rfl (tlt hc6).2.2.2 ?_
            show Steps _ _ _ (s₁.setTop (mkF m 18 #[vI p1] [])) _
            refine XS.iloadN X0.here hx rfl (hb hby d2_18) rfl ?_
            show Steps _ _ _ (s₁.setTop (mkF m 19 #[vI p1] [iI p1])) _
            refine XS.bipush X0.here hx rfl (hb hby d2_19) ?_
            exact kt
          by_cases hc8 : p1 = (127 : Int32)
          · refine ⟨s₁, X0, e0, fun t kt => ?_⟩
            subst hv1
            simp only [if_neg hc3, if_neg hc4, if_pos hc6, if_pos hc8] at kt
            refine pre9 t ?_
            show Steps _ _ _ (s₁.setTop (mkF m 21 #[vI p1] [iI 127, iI p1])) _
            refine XS.icmpYes X0.here hx rfl (pc0 := 21) (pc' := 35) rfl (hb hby d2_21) rfl (teq hc8).1 (by decide) (by decide) ?_
            show Steps _ _ _ (s₁.setTop (mkF m 35 #[vI p1] [])) _
            refine XS.iconst X0.here hx rfl (hb hby d2_35) ?_
            exact kt
          · have pre11 : ∀ t, Steps p.tables e below (s₁.setTop (mkF m 28 #[vI p1] [iI 255, iI p1])) t → Steps p.tables e below (s₁.setTop (mkF m 3 #[vI p1] [iI 32, iI p1])) t := by
              intro t kt
              refine pre9 t ?_
              show Steps _ _ _ (s₁.setTop (mkF m 21 #[vI p1] [iI 127, iI p1])) _
              refine XS.icmpNo X0.here hx rfl (hb hby d2_21) rfl (feq hc8).1 ?_
              show Steps _ _ _ (s₁.setTop (mkF m 24 #[vI p1] [])) _
              refine XS.iloadN X0.here hx rfl (hb hby d2_24) rfl ?_
              show Steps _ _ _ (s₁.setTop (mkF m 25 #[vI p1] [iI p1])) _
              refine XS.sipush X0.here hx rfl (hb hby d2_25) ?_
              exact kt
            by_cases hc10 : (255 : Int32) < p1
            · refine ⟨s₁, X0, e0, fun t kt => ?_⟩
              subst hv1
              simp only [if_neg hc3, if_neg hc4, if_pos hc6, if_neg hc8, if_pos hc10] at kt
              refine pre11 t ?_
              show Steps _ _ _ (s₁.setTop (mkF m 28 #[vI p1] [iI 255, iI p1])) _
              refine XS.icmpYes X0.here hx rfl (pc0 := 28) (pc' := 35) rfl (hb hby d2_28) rfl (tlt hc10).2.2.1 (by decide) (by decide) ?_
              show Steps _ _ _ (s₁.setTop (mkF m 35 #[vI p1] [])) _
              refine XS.iconst X0.here hx rfl (hb hby d2_35) ?_
              exact kt
            · refine ⟨s₁, X0, e0, fun t kt => ?_⟩
              subst hv1
              simp only [if_neg hc3, if_neg hc4, if_pos hc6, if_neg hc8, if_neg hc10] at kt
              refine pre11 t ?_
              show Steps _ _ _ (s₁.setTop (mkF m 28 #[vI p1] [iI 255, iI p1])) _
              refine XS.icmpNo X0.here hx rfl (hb hby d2_28) rfl (flt hc10).2.2.1 ?_
              show Steps _ _ _ (s₁.setTop (mkF m 31 #[vI p1] [])) _
              refine XS.iconst X0.here hx rfl (hb hby d2_31) ?_
              show Steps _ _ _ (s₁.setTop (mkF m 32 #[vI p1] [iI 1])) _
              refine XS.goto X0.here hx rfl (pc0 := 32) (pc' := 36) rfl (hb hby d2_32) (by decide) (by decide) ?_
              exact kt
        · refine ⟨s₁, X0, e0, fun t kt => ?_⟩
          subst hv1
          simp only [if_neg hc3, if_neg hc4, if_neg hc6] at kt
          refine pre7 t ?_
          show Steps _ _ _ (s₁.setTop (mkF m 15 #[vI p1] [iI 32, iI p1])) _
          refine XS.icmpYes X0.here hx rfl (pc0 := 15) (pc' := 35) rfl (hb hby d2_15) rfl (flt hc6).2.2.2 (by decide) (by decide) ?_
          show Steps _ _ _ (s₁.setTop (mkF m 35 #[vI p1] [])) _
          refine XS.iconst X0.here hx rfl (hb hby d2_35) ?_
          exact kt
  obtain ⟨fs, hr, hrun, hended, hW, hsame⟩ := X2.leave (v := some (.int (nar .boolean v1))) (fun h => by rw [Bd.returns] at h; cases h)
  refine ⟨_, _, pre0 _ ?_, hrun, hended, _, _, rfl, ?_, ⟨_, rfl⟩, hW, hsame.mono (by decide) (by decide)⟩
  · show Steps _ _ _ (s₁.setTop (mkF m 0 #[vI p1] [])) _
    refine XS.iloadN X0.here hx rfl (hb hby d2_0) rfl ?_
    show Steps _ _ _ (s₁.setTop (mkF m 1 #[vI p1] [iI p1])) _
    refine XS.bipush X0.here hx rfl (hb hby d2_1) ?_
    show Steps _ _ _ (s₁.setTop (mkF m 3 #[vI p1] [iI 32, iI p1])) _
    refine st2 _ ?_
    show Steps _ _ _ (T2.setTop (mkF m 36 #[vI p1] [iI v1])) _
    exact retN X2 hx (t := .boolean) Bd.returns (by simp) (hb hby d2_36) hr
  · show Q2 Z p1 h0 _ T2.heap _
    rw [e2]
    exact ⟨by subst hv1; first | rfl | (simp only [own_fvc]; done) | (simp only [own_fvc]; rfl) | (simp only [own_fvc, nar] ; first | rfl | (simp; done) | decide), rfl, rfl⟩
def own_isT (p1 : Int32) (cl : Cell) : Int32 := (nar .boolean (if p1 < (0 : Int32) then (0 : Int32) else (if p1 < (256 : Int32) then (if (atv cl p1) = (0 : Int32) then (0 : Int32) else (1 : Int32)) else (0 : Int32))))
theorem d3_0 : decode prog_7_method_2_code 0 = .ok (.iload_n 0, 1) := by decide +kernel
theorem d3_1 : decode prog_7_method_2_code 1 = .ok (.ifCond .lt 23, 3) := by decide +kernel
theorem d3_4 : decode prog_7_method_2_code 4 = .ok (.iload_n 0, 1) := by decide +kernel
theorem d3_5 : decode prog_7_method_2_code 5 = .ok (.getstatic 7, 3) := by decide +kernel
theorem d3_8 : decode prog_7_method_2_code 8 = .ok (.arraylength, 1) := by decide +kernel
theorem d3_9 : decode prog_7_method_2_code 9 = .ok (.if_icmp .ge 15, 3) := by decide +kernel
theorem d3_12 : decode prog_7_method_2_code 12 = .ok (.getstatic 7, 3) := by decide +kernel
theorem d3_15 : decode prog_7_method_2_code 15 = .ok (.iload_n 0, 1) := by decide +kernel
theorem d3_16 : decode prog_7_method_2_code 16 = .ok (.baload, 1) := by decide +kernel
theorem d3_17 : decode prog_7_method_2_code 17 = .ok (.ifCond .eq 7, 3) := by decide +kernel
theorem d3_20 : decode prog_7_method_2_code 20 = .ok (.iconst 1, 1) := by decide +kernel
theorem d3_21 : decode prog_7_method_2_code 21 = .ok (.goto 4, 3) := by decide +kernel
theorem d3_24 : decode prog_7_method_2_code 24 = .ok (.iconst 0, 1) := by decide +kernel
theorem d3_25 : decode prog_7_method_2_code 25 = .ok (.ireturn, 1) := by decide +kernel
theorem ef_3 (m : MethodId) (x0 : Int32) : entryFrame m #[(.int x0)] 1 = mkF m 0 #[.val (.int x0)] [] := by first | (simp [entryFrame, mkF, argsToLocals, Value.category]; done) | rfl
def Q3 (Z : State) (p1 : Int32) (s_T : Addr) (cl : Cell) (h0 : Heap) (v : Option Value) (h : Heap) (L : List Loc) : Prop := v = some (.int (own_isT p1 cl)) ∧ L = [] ∧ h = h0
set_option maxRecDepth 65536 in
set_option maxHeartbeats 40000000 in
theorem rm3 (l : Launch) (Z : State) (a0 : Array Value) (hw : ∀ d ∈ tables_1, d.before a0 Z = true) (ws : List Jvm.Cond) (p1 : Int32) (s_T : Addr) (cl : Cell) (h0 : Heap) (S_T : Sta Z h0 "io/headrace/core/HttpChars" "TCHAR" "[Z" (.ref s_T)) (TB : Tab Z h0 s_T cl .boolean (256 : Int32)) (hT : ∀ j : Int32, ¬ j < (0 : Int32) → j < (33 : Int32) → atv cl j = 0) :
    MetFree l (⟨"io/headrace/core/HttpChars", "isTchar", "(I)Z"⟩ : MethodName) (head1 (Jvm.Cond.code (⟨"io/headrace/core/HttpChars", "isTchar", "(I)Z"⟩ : MethodName) prog_7_method_2_code 1 (some .boolean) :: ws) ({ frames := 0, cells := 0, slots := 0, locals := 0 } : Room)) (fun a U => a = #[(.int p1)] ∧ Z.Warmed39 U.vm ∧ U.heap = h0) (fun _ _ _ _ _ => True) (fun _ U o U' => ∃ v L, o = .returned v ∧ Q3 Z p1 s_T cl h0 v U'.heap L ∧ FrameEnd U o U' L ({ frames := 0, cells := 0, slots := 0, locals := 0 } : Room).cells ({ frames := 0, cells := 0, slots := 0, locals := 0 } : Room).slots) := by
  refine MetFree.of_bodySF (plainFor_of_name pn_0) hisR ?_
  intro p e s m args below meth c s₁ Bd hml0 hP hK
  obtain ⟨rfl, hZ, hh⟩ := hP
  have hx := Bd.exec
  have hby := Bd.bytes
  have hml : c.maxLocals = 1 := hml0
  have hown : s.vm.findClass "io/headrace/core/HttpChars" = some m.cls := findClass_of_methodNamed Bd.named
  have hnm := (name_of_methodNamed Bd.named Bd.method).1
  have X0 : Stand p l e ({ frames := 0, cells := 0, slots := 0, locals := 0 } : Room) s m #[(.int p1)] below meth c s₁ [] 0 0 := Stand.of_body Bd
  have e0 : s₁.heap = h0 := by rw [← hh, Bd.state]; rfl
  have pre0 : ∀ t, Steps p.tables e below (s₁.setTop (mkF m 0 #[.val (.int p1)] [])) t → Steps p.tables e below (s₁.setTop (entryFrame m #[(.int p1)] 1)) t := fun t k => castTop (ef_3 m p1) k
  obtain ⟨v1, hv1⟩ : ∃ z : Int32, z = (if p1 < (0 : Int32) then (0 : Int32) else (if p1 < (256 : Int32) then (if (atv cl p1) = (0 : Int32) then (0 : Int32) else (1 : Int32)) else (0 : Int32))) := ⟨_, rfl⟩
  obtain ⟨T2, X2, e2, st2⟩ : own_Mid X0 h0 (mkF m 1 #[vI p1] [iI p1]) (mkF m 25 #[vI p1] [iI v1]) := by
    by_cases hc3 : p1 < (0 : Int32)
    · refine ⟨s₁, X0, e0, fun t kt => ?_⟩
      subst hv1
      simp only [if_pos hc3] at kt
      show Steps _ _ _ (s₁.setTop (mkF m 1 #[vI p1] [iI p1])) _
      refine XS.ifYes X0.here hx rfl (pc0 := 1) (pc' := 24) rfl (hb hby d3_1) rfl ((if0 _ _).trans (tlt hc3).1) (by decide) (by decide) ?_
      show Steps _ _ _ (s₁.setTop (mkF m 24 #[vI p1] [])) _
      refine XS.iconst X0.here hx rfl (hb hby d3_24) ?_
      exact kt
    · obtain ⟨T4, X4, e4, st4⟩ := getS2 X0 hx hZ hown (host := "") (Or.inl (hw _ (List.mem_of_getElem? (i := 10) rfl))) Via.refl e0 S_T (g := (mkF m 5 #[vI p1] [iI p1])) rfl (hb hby d3_5)
      have pre6 : ∀ t, Steps p.tables e below (T4.setTop (mkF m 9 #[vI p1] [iI 256, iI p1])) t → Steps p.tables e below (s₁.setTop (mkF m 1 #[vI p1] [iI p1])) t := by
        intro t kt
        show Steps _ _ _ (s₁.setTop (mkF m 1 #[vI p1] [iI p1])) _
        refine XS.ifNo X0.here hx rfl (hb hby d3_1) rfl ((if0 _ _).trans (flt hc3).1) ?_
        show Steps _ _ _ (s₁.setTop (mkF m 4 #[vI p1] [])) _
        refine XS.iloadN X0.here hx rfl (hb hby d3_4) rfl ?_
        show Steps _ _ _ (s₁.setTop (mkF m 5 #[vI p1] [iI p1])) _
        refine st4 _ ?_
        show Steps _ _ _ (T4.setTop (mkF m 8 #[vI p1] [iR s_T, iI p1])) _
        refine X4.arraylength hx (by rw [e4]; exact TB.1.1) (State.isArrayOf_alike hZ.alike TB.1.2.1) (g := (mkF m 8 #[vI p1] [iR s_T, iI p1])) rfl rfl (hb hby d3_8) _ ?_
        rw [len_of TB.2.1 TB.2.2.1]
        exact kt
      by_cases hc5 : p1 < (256 : Int32)
      · obtain ⟨T7, X7, e7, st7⟩ := getS2 X4 hx hZ hown (host := "") (Or.inl (hw _ (List.mem_of_getElem? (i := 10) rfl))) Via.refl e4 S_T (g := (mkF m 12 #[vI p1] [])) rfl (hb hby d3_12)
        have hin8 : ¬ (p1 < 0 ∨ cl.slots.size ≤ (p1).toNatClampNeg) := inb_of TB.2.1 ⟨hc3, hc5⟩
        have hat9 : cl.slots[(p1).toNatClampNeg]? = some (.int (atv cl p1)) := TB.2.2.2 _ hin8
        have pre11 : ∀ t, Steps p.tables e below (T7.setTop (mkF m 17 #[vI p1] [iI (atv cl p1)])) t → Steps p.tables e below (s₁.setTop (mkF m 1 #[vI p1] [iI p1])) t := by
          intro t kt
          refine pre6 t ?_
          show Steps _ _ _ (T4.setTop (mkF m 9 #[vI p1] [iI 256, iI p1])) _
          refine XS.icmpNo X4.here hx rfl (hb hby d3_9) rfl (tlt hc5).2.1 ?_
          show Steps _ _ _ (T4.setTop (mkF m 12 #[vI p1] [])) _
          refine st7 _ ?_
          show Steps _ _ _ (T7.setTop (mkF m 15 #[vI p1] [iR s_T])) _
          refine XS.iloadN X7.here hx rfl (hb hby d3_15) rfl ?_
          show Steps _ _ _ (T7.setTop (mkF m 16 #[vI p1] [iI p1, iR s_T])) _
          refine X7.baloadBooleans hx (j := p1) (v := (.int (atv cl p1))) (by rw [e7]; exact TB.1.1) (State.isArrayOf_alike hZ.alike TB.1.2.1) TB.1.2.2 hin8 hat9 (g := (mkF m 16 #[vI p1] [iI p1, iR s_T])) rfl rfl (hb hby d3_16) _ ?_
          exact kt
        by_cases hc10 : (atv cl p1) = (0 : Int32)
        · refine ⟨T7, X7, e7, fun t kt => ?_⟩
          subst hv1
          simp only [if_neg hc3, if_pos hc5, if_pos hc10] at kt
          refine pre11 t ?_
          show Steps _ _ _ (T7.setTop (mkF m 17 #[vI p1] [iI (atv cl p1)])) _
          refine XS.ifYes X7.here hx rfl (pc0 := 17) (pc' := 24) rfl (hb hby d3_17) rfl ((if0 _ _).trans (teq hc10).1) (by decide) (by decide) ?_
          show Steps _ _ _ (T7.setTop (mkF m 24 #[vI p1] [])) _
          refine XS.iconst X7.here hx rfl (hb hby d3_24) ?_
          exact kt
        · refine ⟨T7, X7, e7, fun t kt => ?_⟩
          subst hv1
          simp only [if_neg hc3, if_pos hc5, if_neg hc10] at kt
          refine pre11 t ?_
          show Steps _ _ _ (T7.setTop (mkF m 17 #[vI p1] [iI (atv cl p1)])) _
          refine XS.ifNo X7.here hx rfl (hb hby d3_17) rfl ((if0 _ _).trans (feq hc10).1) ?_
          show Steps _ _ _ (T7.setTop (mkF m 20 #[vI p1] [])) _
          refine XS.iconst X7.here hx rfl (hb hby d3_20) ?_
          show Steps _ _ _ (T7.setTop (mkF m 21 #[vI p1] [iI 1])) _
          refine XS.goto X7.here hx rfl (pc0 := 21) (pc' := 25) rfl (hb hby d3_21) (by decide) (by decide) ?_
          exact kt
      · refine ⟨T4, X4, e4, fun t kt => ?_⟩
        subst hv1
        simp only [if_neg hc3, if_neg hc5] at kt
        refine pre6 t ?_
        show Steps _ _ _ (T4.setTop (mkF m 9 #[vI p1] [iI 256, iI p1])) _
        refine XS.icmpYes X4.here hx rfl (pc0 := 9) (pc' := 24) rfl (hb hby d3_9) rfl (flt hc5).2.1 (by decide) (by decide) ?_
        show Steps _ _ _ (T4.setTop (mkF m 24 #[vI p1] [])) _
        refine XS.iconst X4.here hx rfl (hb hby d3_24) ?_
        exact kt
  obtain ⟨fs, hr, hrun, hended, hW, hsame⟩ := X2.leave (v := some (.int (nar .boolean v1))) (fun h => by rw [Bd.returns] at h; cases h)
  refine ⟨_, _, pre0 _ ?_, hrun, hended, _, _, rfl, ?_, ⟨_, rfl⟩, hW, hsame.mono (by decide) (by decide)⟩
  · show Steps _ _ _ (s₁.setTop (mkF m 0 #[vI p1] [])) _
    refine XS.iloadN X0.here hx rfl (hb hby d3_0) rfl ?_
    show Steps _ _ _ (s₁.setTop (mkF m 1 #[vI p1] [iI p1])) _
    refine st2 _ ?_
    show Steps _ _ _ (T2.setTop (mkF m 25 #[vI p1] [iI v1])) _
    exact retN X2 hx (t := .boolean) Bd.returns (by simp) (hb hby d3_25) hr
  · show Q3 Z p1 s_T cl h0 _ T2.heap _
    rw [e2]
    exact ⟨by subst hv1; first | rfl | (simp only [own_isT]; done) | (simp only [own_isT]; rfl) | (simp only [own_isT, nar] ; first | rfl | (simp; done) | decide), rfl, rfl⟩
theorem own_c30 : ((3 : Int32) = (0 : Int32)) = False := by simp
theorem own_c31 : ((3 : Int32) = (1 : Int32)) = False := by simp
theorem own_c32 : ((3 : Int32) = (2 : Int32)) = False := by simp
theorem own_eq (v : Int32) : own_ws v = (if (own_fvc v) = (0 : Int32) then (0 : Int32) else (if (32 : Int32) < v then (0 : Int32) else (1 : Int32))) := by
  by_cases h1 : v = (32 : Int32)
  · subst h1; decide
  · by_cases h2 : v = (9 : Int32)
    · subst h2; decide
    · have e1 : own_ws v = 0 := by unfold own_ws; rw [if_neg h1, if_neg h2]; decide
      rw [e1]
      by_cases h3 : (32 : Int32) < v
      · rw [if_pos h3]; split <;> rfl
      · have e2 : own_fvc v = 0 := by unfold own_fvc; rw [if_neg h1, if_neg h2, if_neg h3]; decide
        rw [if_pos e2]
theorem own_tab (v : Int32) (cl : Cell) (hT : ∀ j : Int32, ¬ j < (0 : Int32) → j < (33 : Int32) → atv cl j = 0) (h : ¬ own_ws v = (0 : Int32)) : own_isT v cl = 0 := by
  have h0 : atv cl 32 = 0 := hT 32 (by decide) (by decide)
  have h9 : atv cl 9 = 0 := hT 9 (by decide) (by decide)
  by_cases h1 : v = (32 : Int32)
  · subst h1; unfold own_isT; rw [h0]; decide
  · by_cases h2 : v = (9 : Int32)
    · subst h2; unfold own_isT; rw [h9]; decide
    · exact absurd (by unfold own_ws; rw [if_neg h1, if_neg h2]; decide) h

theorem pn_1 : plainName "io/headrace/core/HttpCharsIsWhitespacePinLaw" = true := by first | (simp [plainName, overriddenIn]; done) | decide +kernel
theorem ef_0 (m : MethodId) (x0 : Int32) (x1 : Int32) : entryFrame m #[(.int x0), (.int x1)] maxLocals = mkF m 0 #[.val (.int x0), .val (.int x1), .unset, .unset, .unset, .unset, .unset, .unset] [] := by first | (simp [entryFrame, mkF, argsToLocals, Value.category, maxLocals]; done) | rfl
def Q0 (Z : State) (p1 : Int32) (p2 : Int32) (s_T : Addr) (cl : Cell) (h0 : Heap) (v : Option Value) (h : Heap) (L : List Loc) : Prop := v = some (.int (1 : Int32)) ∧ L = [] ∧ h = h0
set_option maxRecDepth 65536 in
set_option maxHeartbeats 40000000 in
theorem rm0 (l : Launch) (Z : State) (a0 : Array Value) (hw : ∀ d ∈ tables_1, d.before a0 Z = true) (ws : List Jvm.Cond) (p1 : Int32) (p2 : Int32) (s_T : Addr) (cl : Cell) (h0 : Heap) (S_T : Sta Z h0 "io/headrace/core/HttpChars" "TCHAR" "[Z" (.ref s_T)) (TB : Tab Z h0 s_T cl .boolean (256 : Int32)) (hT : ∀ j : Int32, ¬ j < (0 : Int32) → j < (33 : Int32) → atv cl j = 0) :
    MetFree l x (head1 (Jvm.Cond.code x code maxLocals ret :: ws) room_1) (fun a U => a = #[(.int p1), (.int p2)] ∧ Z.Warmed39 U.vm ∧ U.heap = h0) (fun _ _ _ _ _ => True) (fun _ U o U' => ∃ v L, o = .returned v ∧ Q0 Z p1 p2 s_T cl h0 v U'.heap L ∧ FrameEnd U o U' L room_1.cells room_1.slots) := by
  refine MetFree.of_bodySF (plainFor_of_name pn_1) hisR ?_
  intro p e s m args below meth c s₁ Bd hml0 hP hK
  obtain ⟨rfl, hZ, hh⟩ := hP
  have hx := Bd.exec
  have hby := Bd.bytes
  have hml : c.maxLocals = 8 := hml0
  have hown : s.vm.findClass "io/headrace/core/HttpCharsIsWhitespacePinLaw" = some m.cls := findClass_of_methodNamed Bd.named
  have hnm := (name_of_methodNamed Bd.named Bd.method).1
  have X0 : Stand p l e room_1 s m #[(.int p1), (.int p2)] below meth c s₁ [] 0 0 := Stand.of_body Bd
  have e0 : s₁.heap = h0 := by rw [← hh, Bd.state]; rfl
  have pre0 : ∀ t, Steps p.tables e below (s₁.setTop (mkF m 0 #[.val (.int p1), .val (.int p2), .unset, .unset, .unset, .unset, .unset, .unset] [])) t → Steps p.tables e below (s₁.setTop (entryFrame m #[(.int p1), (.int p2)] maxLocals)) t := fun t k => castTop (ef_0 m p1 p2) k
  obtain ⟨mv, hmv⟩ : ∃ z : Int32, z = (p2 &&& (3 : Int32)) := ⟨_, rfl⟩
  obtain ⟨v2, hv2⟩ : ∃ z : Int32, z = (if mv = (0 : Int32) then p1 else (if mv = (1 : Int32) then (p1 &&& (63 : Int32)) else (if mv = (2 : Int32) then ((p1 &&& (511 : Int32)) - (128 : Int32)) else (if (((p2.toUInt32 >>> ((2 : Int32) &&& 31).toUInt32).toInt32) &&& (1 : Int32)) = (0 : Int32) then (9 : Int32) else (32 : Int32))))) := ⟨_, rfl⟩
  obtain ⟨T3, X3, e3, st3⟩ : own_Mid X0 h0 (mkF m 5 #[vI p1, vI p2, vI mv, .unset, .unset, .unset, .unset, .unset] [iI mv]) (mkF m 61 #[vI p1, vI p2, vI mv, vI v2, .unset, .unset, .unset, .unset] []) := by
    by_cases hc4 : mv = (0 : Int32)
    · refine ⟨s₁, X0, e0, fun t kt => ?_⟩
      subst hv2
      simp only [if_pos hc4] at kt
      show Steps _ _ _ (s₁.setTop (mkF m 5 #[vI p1, vI p2, vI mv, .unset, .unset, .unset, .unset, .unset] [iI mv])) _
      refine XS.ifNo X0.here hx rfl (hb hby at_5) rfl ((if0 _ _).trans (teq hc4).2) ?_
      show Steps _ _ _ (s₁.setTop (mkF m 8 #[vI p1, vI p2, vI mv, .unset, .unset, .unset, .unset, .unset] [])) _
      refine XS.iloadN X0.here hx rfl (hb hby at_8) rfl ?_
      show Steps _ _ _ (s₁.setTop (mkF m 9 #[vI p1, vI p2, vI mv, .unset, .unset, .unset, .unset, .unset] [iI p1])) _
      refine XS.istoreN X0.here hx rfl (hb hby at_9) rfl (l' := #[vI p1, vI p2, vI mv, vI p1, .unset, .unset, .unset, .unset]) rfl ?_
      show Steps _ _ _ (s₁.setTop (mkF m 10 #[vI p1, vI p2, vI mv, vI p1, .unset, .unset, .unset, .unset] [])) _
      refine XS.goto X0.here hx rfl (pc0 := 10) (pc' := 61) rfl (hb hby at_10) (by decide) (by decide) ?_
      exact kt
    · have pre6 : ∀ t, Steps p.tables e below (s₁.setTop (mkF m 15 #[vI p1, vI p2, vI mv, .unset, .unset, .unset, .unset, .unset] [iI 1, iI mv])) t → Steps p.tables e below (s₁.setTop (mkF m 5 #[vI p1, vI p2, vI mv, .unset, .unset, .unset, .unset, .unset] [iI mv])) t := by
        intro t kt
        show Steps _ _ _ (s₁.setTop (mkF m 5 #[vI p1, vI p2, vI mv, .unset, .unset, .unset, .unset, .unset] [iI mv])) _
        refine XS.ifYes X0.here hx rfl (pc0 := 5) (pc' := 13) rfl (hb hby at_5) rfl ((if0 _ _).trans (feq hc4).2) (by decide) (by decide) ?_
        show Steps _ _ _ (s₁.setTop (mkF m 13 #[vI p1, vI p2, vI mv, .unset, .unset, .unset, .unset, .unset] [])) _
        refine XS.iloadN X0.here hx rfl (hb hby at_13) rfl ?_
        show Steps _ _ _ (s₁.setTop (mkF m 14 #[vI p1, vI p2, vI mv, .unset, .unset, .unset, .unset, .unset] [iI mv])) _
        refine XS.iconst X0.here hx rfl (hb hby at_14) ?_
        exact kt
      by_cases hc5 : mv = (1 : Int32)
      · refine ⟨s₁, X0, e0, fun t kt => ?_⟩
        subst hv2
        simp only [if_neg hc4, if_pos hc5] at kt
        refine pre6 t ?_
        show Steps _ _ _ (s₁.setTop (mkF m 15 #[vI p1, vI p2, vI mv, .unset, .unset, .unset, .unset, .unset] [iI 1, iI mv])) _
        refine XS.icmpNo X0.here hx rfl (hb hby at_15) rfl (teq hc5).2 ?_
        show Steps _ _ _ (s₁.setTop (mkF m 18 #[vI p1, vI p2, vI mv, .unset, .unset, .unset, .unset, .unset] [])) _
        refine XS.iloadN X0.here hx rfl (hb hby at_18) rfl ?_
        show Steps _ _ _ (s₁.setTop (mkF m 19 #[vI p1, vI p2, vI mv, .unset, .unset, .unset, .unset, .unset] [iI p1])) _
        refine XS.bipush X0.here hx rfl (hb hby at_19) ?_
        show Steps _ _ _ (s₁.setTop (mkF m 21 #[vI p1, vI p2, vI mv, .unset, .unset, .unset, .unset, .unset] [iI 63, iI p1])) _
        refine XS.iand X0.here hx rfl (hb hby at_21) rfl ?_
        show Steps _ _ _ (s₁.setTop (mkF m 22 #[vI p1, vI p2, vI mv, .unset, .unset, .unset, .unset, .unset] [iI (p1 &&& (63 : Int32))])) _
        refine XS.istoreN X0.here hx rfl (hb hby at_22) rfl (l' := #[vI p1, vI p2, vI mv, vI (p1 &&& (63 : Int32)), .unset, .unset, .unset, .unset]) rfl ?_
        show Steps _ _ _ (s₁.setTop (mkF m 23 #[vI p1, vI p2, vI mv, vI (p1 &&& (63 : Int32)), .unset, .unset, .unset, .unset] [])) _
        refine XS.goto X0.here hx rfl (pc0 := 23) (pc' := 61) rfl (hb hby at_23) (by decide) (by decide) ?_
        exact kt
      · have pre8 : ∀ t, Steps p.tables e below (s₁.setTop (mkF m 28 #[vI p1, vI p2, vI mv, .unset, .unset, .unset, .unset, .unset] [iI 2, iI mv])) t → Steps p.tables e below (s₁.setTop (mkF m 5 #[vI p1, vI p2, vI mv, .unset, .unset, .unset, .unset, .unset] [iI mv])) t := by
          intro t kt
          refine pre6 t ?_
          show Steps _ _ _ (s₁.setTop (mkF m 15 #[vI p1, vI p2, vI mv, .unset, .unset, .unset, .unset, .unset] [iI 1, iI mv])) _
          refine XS.icmpYes X0.here hx rfl (pc0 := 15) (pc' := 26) rfl (hb hby at_15) rfl (feq hc5).2 (by decide) (by decide) ?_
          show Steps _ _ _ (s₁.setTop (mkF m 26 #[vI p1, vI p2, vI mv, .unset, .unset, .unset, .unset, .unset] [])) _
          refine XS.iloadN X0.here hx rfl (hb hby at_26) rfl ?_
          show Steps _ _ _ (s₁.setTop (mkF m 27 #[vI p1, vI p2, vI mv, .unset, .unset, .unset, .unset, .unset] [iI mv])) _
          refine XS.iconst X0.here hx rfl (hb hby at_27) ?_
          exact kt
        by_cases hc7 : mv = (2 : Int32)
        · refine ⟨s₁, X0, e0, fun t kt => ?_⟩
          subst hv2
          simp only [if_neg hc4, if_neg hc5, if_pos hc7] at kt
          refine pre8 t ?_
          show Steps _ _ _ (s₁.setTop (mkF m 28 #[vI p1, vI p2, vI mv, .unset, .unset, .unset, .unset, .unset] [iI 2, iI mv])) _
          refine XS.icmpNo X0.here hx rfl (hb hby at_28) rfl (teq hc7).2 ?_
          show Steps _ _ _ (s₁.setTop (mkF m 31 #[vI p1, vI p2, vI mv, .unset, .unset, .unset, .unset, .unset] [])) _
          refine XS.iloadN X0.here hx rfl (hb hby at_31) rfl ?_
          show Steps _ _ _ (s₁.setTop (mkF m 32 #[vI p1, vI p2, vI mv, .unset, .unset, .unset, .unset, .unset] [iI p1])) _
          refine XS.sipush X0.here hx rfl (hb hby at_32) ?_
          show Steps _ _ _ (s₁.setTop (mkF m 35 #[vI p1, vI p2, vI mv, .unset, .unset, .unset, .unset, .unset] [iI 511, iI p1])) _
          refine XS.iand X0.here hx rfl (hb hby at_35) rfl ?_
          show Steps _ _ _ (s₁.setTop (mkF m 36 #[vI p1, vI p2, vI mv, .unset, .unset, .unset, .unset, .unset] [iI (p1 &&& (511 : Int32))])) _
          refine XS.sipush X0.here hx rfl (hb hby at_36) ?_
          show Steps _ _ _ (s₁.setTop (mkF m 39 #[vI p1, vI p2, vI mv, .unset, .unset, .unset, .unset, .unset] [iI 128, iI (p1 &&& (511 : Int32))])) _
          refine XS.isub X0.here hx rfl (hb hby at_39) rfl ?_
          show Steps _ _ _ (s₁.setTop (mkF m 40 #[vI p1, vI p2, vI mv, .unset, .unset, .unset, .unset, .unset] [iI ((p1 &&& (511 : Int32)) - (128 : Int32))])) _
          refine XS.istoreN X0.here hx rfl (hb hby at_40) rfl (l' := #[vI p1, vI p2, vI mv, vI ((p1 &&& (511 : Int32)) - (128 : Int32)), .unset, .unset, .unset, .unset]) rfl ?_
          show Steps _ _ _ (s₁.setTop (mkF m 41 #[vI p1, vI p2, vI mv, vI ((p1 &&& (511 : Int32)) - (128 : Int32)), .unset, .unset, .unset, .unset] [])) _
          refine XS.goto X0.here hx rfl (pc0 := 41) (pc' := 61) rfl (hb hby at_41) (by decide) (by decide) ?_
          exact kt
        · have pre10 : ∀ t, Steps p.tables e below (s₁.setTop (mkF m 49 #[vI p1, vI p2, vI mv, .unset, .unset, .unset, .unset, .unset] [iI (((p2.toUInt32 >>> ((2 : Int32) &&& 31).toUInt32).toInt32) &&& (1 : Int32))])) t → Steps p.tables e below (s₁.setTop (mkF m 5 #[vI p1, vI p2, vI mv, .unset, .unset, .unset, .unset, .unset] [iI mv])) t := by
            intro t kt
            refine pre8 t ?_
            show Steps _ _ _ (s₁.setTop (mkF m 28 #[vI p1, vI p2, vI mv, .unset, .unset, .unset, .unset, .unset] [iI 2, iI mv])) _
            refine XS.icmpYes X0.here hx rfl (pc0 := 28) (pc' := 44) rfl (hb hby at_28) rfl (feq hc7).2 (by decide) (by decide) ?_
            show Steps _ _ _ (s₁.setTop (mkF m 44 #[vI p1, vI p2, vI mv, .unset, .unset, .unset, .unset, .unset] [])) _
            refine XS.iloadN X0.here hx rfl (hb hby at_44) rfl ?_
            show Steps _ _ _ (s₁.setTop (mkF m 45 #[vI p1, vI p2, vI mv, .unset, .unset, .unset, .unset, .unset] [iI p2])) _
            refine XS.iconst X0.here hx rfl (hb hby at_45) ?_
            show Steps _ _ _ (s₁.setTop (mkF m 46 #[vI p1, vI p2, vI mv, .unset, .unset, .unset, .unset, .unset] [iI 2, iI p2])) _
            refine XS.iushr X0.here hx rfl (hb hby at_46) rfl ?_
            show Steps _ _ _ (s₁.setTop (mkF m 47 #[vI p1, vI p2, vI mv, .unset, .unset, .unset, .unset, .unset] [iI ((p2.toUInt32 >>> ((2 : Int32) &&& 31).toUInt32).toInt32)])) _
            refine XS.iconst X0.here hx rfl (hb hby at_47) ?_
            show Steps _ _ _ (s₁.setTop (mkF m 48 #[vI p1, vI p2, vI mv, .unset, .unset, .unset, .unset, .unset] [iI 1, iI ((p2.toUInt32 >>> ((2 : Int32) &&& 31).toUInt32).toInt32)])) _
            refine XS.iand X0.here hx rfl (hb hby at_48) rfl ?_
            exact kt
          by_cases hc9 : (((p2.toUInt32 >>> ((2 : Int32) &&& 31).toUInt32).toInt32) &&& (1 : Int32)) = (0 : Int32)
          · refine ⟨s₁, X0, e0, fun t kt => ?_⟩
            subst hv2
            simp only [if_neg hc4, if_neg hc5, if_neg hc7, if_pos hc9] at kt
            refine pre10 t ?_
            show Steps _ _ _ (s₁.setTop (mkF m 49 #[vI p1, vI p2, vI mv, .unset, .unset, .unset, .unset, .unset] [iI (((p2.toUInt32 >>> ((2 : Int32) &&& 31).toUInt32).toInt32) &&& (1 : Int32))])) _
            refine XS.ifNo X0.here hx rfl (hb hby at_49) rfl ((if0 _ _).trans (teq hc9).2) ?_
            show Steps _ _ _ (s₁.setTop (mkF m 52 #[vI p1, vI p2, vI mv, .unset, .unset, .unset, .unset, .unset] [])) _
            refine XS.bipush X0.here hx rfl (hb hby at_52) ?_
            show Steps _ _ _ (s₁.setTop (mkF m 54 #[vI p1, vI p2, vI mv, .unset, .unset, .unset, .unset, .unset] [iI 9])) _
            refine XS.istoreN X0.here hx rfl (hb hby at_54) rfl (l' := #[vI p1, vI p2, vI mv, vI 9, .unset, .unset, .unset, .unset]) rfl ?_
            show Steps _ _ _ (s₁.setTop (mkF m 55 #[vI p1, vI p2, vI mv, vI 9, .unset, .unset, .unset, .unset] [])) _
            refine XS.goto X0.here hx rfl (pc0 := 55) (pc' := 61) rfl (hb hby at_55) (by decide) (by decide) ?_
            exact kt
          · refine ⟨s₁, X0, e0, fun t kt => ?_⟩
            subst hv2
            simp only [if_neg hc4, if_neg hc5, if_neg hc7, if_neg hc9] at kt
            refine pre10 t ?_
            show Steps _ _ _ (s₁.setTop (mkF m 49 #[vI p1, vI p2, vI mv, .unset, .unset, .unset, .unset, .unset] [iI (((p2.toUInt32 >>> ((2 : Int32) &&& 31).toUInt32).toInt32) &&& (1 : Int32))])) _
            refine XS.ifYes X0.here hx rfl (pc0 := 49) (pc' := 58) rfl (hb hby at_49) rfl ((if0 _ _).trans (feq hc9).2) (by decide) (by decide) ?_
            show Steps _ _ _ (s₁.setTop (mkF m 58 #[vI p1, vI p2, vI mv, .unset, .unset, .unset, .unset, .unset] [])) _
            refine XS.bipush X0.here hx rfl (hb hby at_58) ?_
            show Steps _ _ _ (s₁.setTop (mkF m 60 #[vI p1, vI p2, vI mv, .unset, .unset, .unset, .unset, .unset] [iI 32])) _
            refine XS.istoreN X0.here hx rfl (hb hby at_60) rfl (l' := #[vI p1, vI p2, vI mv, vI 32, .unset, .unset, .unset, .unset]) rfl ?_
            exact kt
  have hm3 : mv = (3 : Int32) → own_ws v2 = 1 := fun q => by rw [hv2, q]; simp only [own_c30, own_c31, own_c32, if_false]; split <;> decide
  obtain ⟨_, _, ⟨T11, L11, k11, n11⟩, -, X11, ⟨Lc11, hQ11, l11, y11, z11⟩, st11⟩ := Jvm.LawKit.callS X3 hx (y := (⟨"io/headrace/core/HttpChars", "isWhitespace", "(I)Z"⟩ : MethodName)) hown (mvT hZ (hw _ (List.mem_of_getElem? (i := 0) rfl))) (mvT hZ (hw _ (List.mem_of_getElem? (i := 1) rfl))) (mvT hZ (hw _ (List.mem_of_getElem? (i := 2) rfl))) (mvT hZ (hw _ (List.mem_of_getElem? (i := 3) rfl))) (by decide) (backOf (W := 0) (rm1 l Z a0 hw [] v2 h0 ) hZ (hw _ (List.mem_of_getElem? (i := 3) rfl)) (hw _ (List.mem_of_getElem? (i := 2) rfl)) (by decide) (by decide)) (g := (mkF m 62 #[vI p1, vI p2, vI mv, vI v2, .unset, .unset, .unset, .unset] [iI v2])) rfl (by rw [hml]; rfl) (argsL := [(.int v2)]) (rest := []) (lenOf pd_0 rfl) rfl (by show 2 * 0 + _ ≤ _; exact Nat.le_of_eq rfl) (hb hby at_62) (fun _ _ => ⟨rfl, e3, (by decide : 0 + 0 ≤ _), (by decide : 0 + 0 ≤ _)⟩)
  dsimp only [Pt.U, Pt.locs, Pt.cells, Pt.slots] at X11 l11 y11 z11 st11 hQ11
  subst l11 y11 z11
  obtain ⟨rfl, rfl, e11⟩ := hQ11
  try rw [List.append_nil] at X11
  obtain ⟨_, _, ⟨T12, L12, k12, n12⟩, -, X12, ⟨Lc12, hQ12, l12, y12, z12⟩, st12⟩ := Jvm.LawKit.callS X11 hx (y := (⟨"io/headrace/core/HttpChars", "isFieldValueChar", "(I)Z"⟩ : MethodName)) hown (mvT hZ (hw _ (List.mem_of_getElem? (i := 4) rfl))) (mvT hZ (hw _ (List.mem_of_getElem? (i := 5) rfl))) (mvT hZ (hw _ (List.mem_of_getElem? (i := 2) rfl))) (mvT hZ (hw _ (List.mem_of_getElem? (i := 6) rfl))) (by decide) (backOf (W := 0) (rm2 l Z a0 hw [] v2 h0 ) hZ (hw _ (List.mem_of_getElem? (i := 6) rfl)) (hw _ (List.mem_of_getElem? (i := 2) rfl)) (by decide) (by decide)) (g := (mkF m 68 #[vI p1, vI p2, vI mv, vI v2, vI (own_ws v2), .unset, .unset, .unset] [iI v2])) rfl (by rw [hml]; rfl) (argsL := [(.int v2)]) (rest := []) (lenOf pd_0 rfl) rfl (by show 2 * 0 + _ ≤ _; exact Nat.le_of_eq rfl) (hb hby at_68) (fun _ _ => ⟨rfl, e11, (by decide : 0 + 0 ≤ _), (by decide : 0 + 0 ≤ _)⟩)
  dsimp only [Pt.U, Pt.locs, Pt.cells, Pt.slots] at X12 l12 y12 z12 st12 hQ12
  subst l12 y12 z12
  obtain ⟨rfl, rfl, e12⟩ := hQ12
  try rw [List.append_nil] at X12
  obtain ⟨v13, hv13⟩ : ∃ z : Int32, z = (if (own_fvc v2) = (0 : Int32) then (0 : Int32) else (if (32 : Int32) < v2 then (0 : Int32) else (1 : Int32))) := ⟨_, rfl⟩
  obtain ⟨T14, X14, e14, st14⟩ : own_Mid X12 h0 (mkF m 71 #[vI p1, vI p2, vI mv, vI v2, vI (own_ws v2), .unset, .unset, .unset] [iI (own_fvc v2)]) (mkF m 85 #[vI p1, vI p2, vI mv, vI v2, vI (own_ws v2), .unset, .unset, .unset] [iI v13]) := by
    by_cases hc15 : (own_fvc v2) = (0 : Int32)
    · refine ⟨T12, X12, e12, fun t kt => ?_⟩
      subst hv13
      simp only [if_pos hc15] at kt
      show Steps _ _ _ (T12.setTop (mkF m 71 #[vI p1, vI p2, vI mv, vI v2, vI (own_ws v2), .unset, .unset, .unset] [iI (own_fvc v2)])) _
      refine XS.ifYes X12.here hx rfl (pc0 := 71) (pc' := 84) rfl (hb hby at_71) rfl ((if0 _ _).trans (teq hc15).1) (by decide) (by decide) ?_
      show Steps _ _ _ (T12.setTop (mkF m 84 #[vI p1, vI p2, vI mv, vI v2, vI (own_ws v2), .unset, .unset, .unset] [])) _
      refine XS.iconst X12.here hx rfl (hb hby at_84) ?_
      exact kt
    · have pre17 : ∀ t, Steps p.tables e below (T12.setTop (mkF m 77 #[vI p1, vI p2, vI mv, vI v2, vI (own_ws v2), .unset, .unset, .unset] [iI 32, iI v2])) t → Steps p.tables e below (T12.setTop (mkF m 71 #[vI p1, vI p2, vI mv, vI v2, vI (own_ws v2), .unset, .unset, .unset] [iI (own_fvc v2)])) t := by
        intro t kt
        show Steps _ _ _ (T12.setTop (mkF m 71 #[vI p1, vI p2, vI mv, vI v2, vI (own_ws v2), .unset, .unset, .unset] [iI (own_fvc v2)])) _
        refine XS.ifNo X12.here hx rfl (hb hby at_71) rfl ((if0 _ _).trans (feq hc15).1) ?_
        show Steps _ _ _ (T12.setTop (mkF m 74 #[vI p1, vI p2, vI mv, vI v2, vI (own_ws v2), .unset, .unset, .unset] [])) _
        refine XS.iloadN X12.here hx rfl (hb hby at_74) rfl ?_
        show Steps _ _ _ (T12.setTop (mkF m 75 #[vI p1, vI p2, vI mv, vI v2, vI (own_ws v2), .unset, .unset, .unset] [iI v2])) _
        refine XS.bipush X12.here hx rfl (hb hby at_75) ?_
        exact kt
      by_cases hc16 : (32 : Int32) < v2
      · refine ⟨T12, X12, e12, fun t kt => ?_⟩
        subst hv13
        simp only [if_neg hc15, if_pos hc16] at kt
        refine pre17 t ?_
        show Steps _ _ _ (T12.setTop (mkF m 77 #[vI p1, vI p2, vI mv, vI v2, vI (own_ws v2), .unset, .unset, .unset] [iI 32, iI v2])) _
        refine XS.icmpYes X12.here hx rfl (pc0 := 77) (pc' := 84) rfl (hb hby at_77) rfl (tlt hc16).2.2.1 (by decide) (by decide) ?_
        show Steps _ _ _ (T12.setTop (mkF m 84 #[vI p1, vI p2, vI mv, vI v2, vI (own_ws v2), .unset, .unset, .unset] [])) _
        refine XS.iconst X12.here hx rfl (hb hby at_84) ?_
        exact kt
      · refine ⟨T12, X12, e12, fun t kt => ?_⟩
        subst hv13
        simp only [if_neg hc15, if_neg hc16] at kt
        refine pre17 t ?_
        show Steps _ _ _ (T12.setTop (mkF m 77 #[vI p1, vI p2, vI mv, vI v2, vI (own_ws v2), .unset, .unset, .unset] [iI 32, iI v2])) _
        refine XS.icmpNo X12.here hx rfl (hb hby at_77) rfl (flt hc16).2.2.1 ?_
        show Steps _ _ _ (T12.setTop (mkF m 80 #[vI p1, vI p2, vI mv, vI v2, vI (own_ws v2), .unset, .unset, .unset] [])) _
        refine XS.iconst X12.here hx rfl (hb hby at_80) ?_
        show Steps _ _ _ (T12.setTop (mkF m 81 #[vI p1, vI p2, vI mv, vI v2, vI (own_ws v2), .unset, .unset, .unset] [iI 1])) _
        refine XS.goto X12.here hx rfl (pc0 := 81) (pc' := 85) rfl (hb hby at_81) (by decide) (by decide) ?_
        exact kt
  have pre19 : ∀ t, Steps p.tables e below (T14.setTop (mkF m 89 #[vI p1, vI p2, vI mv, vI v2, vI (own_ws v2), vI v13, .unset, .unset] [iI (own_ws v2)])) t → Steps p.tables e below (s₁.setTop (entryFrame m #[(.int p1), (.int p2)] maxLocals)) t := by
    intro t kt
    refine pre0 t ?_
    show Steps _ _ _ (s₁.setTop (mkF m 0 #[vI p1, vI p2, .unset, .unset, .unset, .unset, .unset, .unset] [])) _
    refine XS.iloadN X0.here hx rfl (hb hby at_0) rfl ?_
    show Steps _ _ _ (s₁.setTop (mkF m 1 #[vI p1, vI p2, .unset, .unset, .unset, .unset, .unset, .unset] [iI p2])) _
    refine XS.iconst X0.here hx rfl (hb hby at_1) ?_
    show Steps _ _ _ (s₁.setTop (mkF m 2 #[vI p1, vI p2, .unset, .unset, .unset, .unset, .unset, .unset] [iI 3, iI p2])) _
    refine XS.iand X0.here hx rfl (hb hby at_2) rfl ?_
    show Steps _ _ _ (s₁.setTop (mkF m 3 #[vI p1, vI p2, .unset, .unset, .unset, .unset, .unset, .unset] [iI (p2 &&& (3 : Int32))])) _
    refine XS.istoreN X0.here hx rfl (hb hby at_3) rfl (l' := #[vI p1, vI p2, vI (p2 &&& (3 : Int32)), .unset, .unset, .unset, .unset, .unset]) rfl ?_
    rw [← hmv]
    show Steps _ _ _ (s₁.setTop (mkF m 4 #[vI p1, vI p2, vI mv, .unset, .unset, .unset, .unset, .unset] [])) _
    refine XS.iloadN X0.here hx rfl (hb hby at_4) rfl ?_
    show Steps _ _ _ (s₁.setTop (mkF m 5 #[vI p1, vI p2, vI mv, .unset, .unset, .unset, .unset, .unset] [iI mv])) _
    refine st3 _ ?_
    show Steps _ _ _ (T3.setTop (mkF m 61 #[vI p1, vI p2, vI mv, vI v2, .unset, .unset, .unset, .unset] [])) _
    refine XS.iloadN X3.here hx rfl (hb hby at_61) rfl ?_
    show Steps _ _ _ (T3.setTop (mkF m 62 #[vI p1, vI p2, vI mv, vI v2, .unset, .unset, .unset, .unset] [iI v2])) _
    refine st11 _ ?_
    show Steps _ _ _ (T11.setTop (mkF m 65 #[vI p1, vI p2, vI mv, vI v2, .unset, .unset, .unset, .unset] [iI (own_ws v2)])) _
    refine XS.istore X11.here hx rfl (hb hby at_65) rfl (l' := #[vI p1, vI p2, vI mv, vI v2, vI (own_ws v2), .unset, .unset, .unset]) rfl ?_
    show Steps _ _ _ (T11.setTop (mkF m 67 #[vI p1, vI p2, vI mv, vI v2, vI (own_ws v2), .unset, .unset, .unset] [])) _
    refine XS.iloadN X11.here hx rfl (hb hby at_67) rfl ?_
    show Steps _ _ _ (T11.setTop (mkF m 68 #[vI p1, vI p2, vI mv, vI v2, vI (own_ws v2), .unset, .unset, .unset] [iI v2])) _
    refine st12 _ ?_
    show Steps _ _ _ (T12.setTop (mkF m 71 #[vI p1, vI p2, vI mv, vI v2, vI (own_ws v2), .unset, .unset, .unset] [iI (own_fvc v2)])) _
    refine st14 _ ?_
    show Steps _ _ _ (T14.setTop (mkF m 85 #[vI p1, vI p2, vI mv, vI v2, vI (own_ws v2), .unset, .unset, .unset] [iI v13])) _
    refine XS.istore X14.here hx rfl (hb hby at_85) rfl (l' := #[vI p1, vI p2, vI mv, vI v2, vI (own_ws v2), vI v13, .unset, .unset]) rfl ?_
    show Steps _ _ _ (T14.setTop (mkF m 87 #[vI p1, vI p2, vI mv, vI v2, vI (own_ws v2), vI v13, .unset, .unset] [])) _
    refine XS.iload X14.here hx rfl (hb hby at_87) rfl ?_
    exact kt
  by_cases hc18 : (own_ws v2) = (0 : Int32)
  · obtain ⟨v20, hv20⟩ : ∃ z : Int32, z = (if mv = (3 : Int32) then (0 : Int32) else (1 : Int32)) := ⟨_, rfl⟩
    obtain ⟨T21, X21, e21, st21⟩ : own_Mid X14 h0 (mkF m 108 #[vI p1, vI p2, vI mv, vI v2, vI (own_ws v2), vI v13, vI 1, .unset] [iI 3, iI mv]) (mkF m 121 #[vI p1, vI p2, vI mv, vI v2, vI (own_ws v2), vI v13, vI 1, .unset] [iI v20]) := by
      by_cases hc22 : mv = (3 : Int32)
      · refine ⟨T14, X14, e14, fun t kt => ?_⟩
        subst hv20
        simp only [if_pos hc22] at kt
        show Steps _ _ _ (T14.setTop (mkF m 108 #[vI p1, vI p2, vI mv, vI v2, vI (own_ws v2), vI v13, vI 1, .unset] [iI 3, iI mv])) _
        refine XS.icmpNo X14.here hx rfl (hb hby at_108) rfl (teq hc22).2 ?_
        show Steps _ _ _ (T14.setTop (mkF m 111 #[vI p1, vI p2, vI mv, vI v2, vI (own_ws v2), vI v13, vI 1, .unset] [])) _
        refine XS.iload X14.here hx rfl (hb hby at_111) rfl ?_
        show Steps _ _ _ (T14.setTop (mkF m 113 #[vI p1, vI p2, vI mv, vI v2, vI (own_ws v2), vI v13, vI 1, .unset] [iI (own_ws v2)])) _
        refine XS.ifYes X14.here hx rfl (pc0 := 113) (pc' := 120) rfl (hb hby at_113) rfl ((if0 _ _).trans (teq hc18).1) (by decide) (by decide) ?_
        show Steps _ _ _ (T14.setTop (mkF m 120 #[vI p1, vI p2, vI mv, vI v2, vI (own_ws v2), vI v13, vI 1, .unset] [])) _
        refine XS.iconst X14.here hx rfl (hb hby at_120) ?_
        exact kt
      · refine ⟨T14, X14, e14, fun t kt => ?_⟩
        subst hv20
        simp only [if_neg hc22] at kt
        show Steps _ _ _ (T14.setTop (mkF m 108 #[vI p1, vI p2, vI mv, vI v2, vI (own_ws v2), vI v13, vI 1, .unset] [iI 3, iI mv])) _
        refine XS.icmpYes X14.here hx rfl (pc0 := 108) (pc' := 116) rfl (hb hby at_108) rfl (feq hc22).2 (by decide) (by decide) ?_
        show Steps _ _ _ (T14.setTop (mkF m 116 #[vI p1, vI p2, vI mv, vI v2, vI (own_ws v2), vI v13, vI 1, .unset] [])) _
        refine XS.iconst X14.here hx rfl (hb hby at_116) ?_
        show Steps _ _ _ (T14.setTop (mkF m 117 #[vI p1, vI p2, vI mv, vI v2, vI (own_ws v2), vI v13, vI 1, .unset] [iI 1])) _
        refine XS.goto X14.here hx rfl (pc0 := 117) (pc' := 121) rfl (hb hby at_117) (by decide) (by decide) ?_
        exact kt
    have hh23 : (own_ws v2) = v13 := (by rw [hv13]; exact own_eq _)
    have hh24 : ¬ (v20 = (0 : Int32)) := (by rw [hv20]; rcases Decidable.em (mv = (3 : Int32)) with q | q; exact absurd ((hm3 q).symm.trans hc18) (by decide); rw [if_neg q]; decide)
    obtain ⟨fs, hr, hrun, hended, hW, hsame⟩ := X21.leave (v := some (.int (1 : Int32))) (fun h => by rw [Bd.returns] at h; cases h)
    refine ⟨_, _, pre19 _ ?_, hrun, hended, _, _, rfl, ?_, ⟨_, rfl⟩, hW, hsame.mono (by decide) (by decide)⟩
    · show Steps _ _ _ (T14.setTop (mkF m 89 #[vI p1, vI p2, vI mv, vI v2, vI (own_ws v2), vI v13, .unset, .unset] [iI (own_ws v2)])) _
      refine XS.ifYes X14.here hx rfl (pc0 := 89) (pc' := 99) rfl (hb hby at_89) rfl ((if0 _ _).trans (teq hc18).1) (by decide) (by decide) ?_
      show Steps _ _ _ (T14.setTop (mkF m 99 #[vI p1, vI p2, vI mv, vI v2, vI (own_ws v2), vI v13, .unset, .unset] [])) _
      refine XS.iconst X14.here hx rfl (hb hby at_99) ?_
      show Steps _ _ _ (T14.setTop (mkF m 100 #[vI p1, vI p2, vI mv, vI v2, vI (own_ws v2), vI v13, .unset, .unset] [iI 1])) _
      refine XS.goto X14.here hx rfl (pc0 := 100) (pc' := 104) rfl (hb hby at_100) (by decide) (by decide) ?_
      show Steps _ _ _ (T14.setTop (mkF m 104 #[vI p1, vI p2, vI mv, vI v2, vI (own_ws v2), vI v13, .unset, .unset] [iI 1])) _
      refine XS.istore X14.here hx rfl (hb hby at_104) rfl (l' := #[vI p1, vI p2, vI mv, vI v2, vI (own_ws v2), vI v13, vI 1, .unset]) rfl ?_
      show Steps _ _ _ (T14.setTop (mkF m 106 #[vI p1, vI p2, vI mv, vI v2, vI (own_ws v2), vI v13, vI 1, .unset] [])) _
      refine XS.iloadN X14.here hx rfl (hb hby at_106) rfl ?_
      show Steps _ _ _ (T14.setTop (mkF m 107 #[vI p1, vI p2, vI mv, vI v2, vI (own_ws v2), vI v13, vI 1, .unset] [iI mv])) _
      refine XS.iconst X14.here hx rfl (hb hby at_107) ?_
      show Steps _ _ _ (T14.setTop (mkF m 108 #[vI p1, vI p2, vI mv, vI v2, vI (own_ws v2), vI v13, vI 1, .unset] [iI 3, iI mv])) _
      refine st21 _ ?_
      show Steps _ _ _ (T21.setTop (mkF m 121 #[vI p1, vI p2, vI mv, vI v2, vI (own_ws v2), vI v13, vI 1, .unset] [iI v20])) _
      refine XS.istore X21.here hx rfl (hb hby at_121) rfl (l' := #[vI p1, vI p2, vI mv, vI v2, vI (own_ws v2), vI v13, vI 1, vI v20]) rfl ?_
      show Steps _ _ _ (T21.setTop (mkF m 123 #[vI p1, vI p2, vI mv, vI v2, vI (own_ws v2), vI v13, vI 1, vI v20] [])) _
      refine XS.iload X21.here hx rfl (hb hby at_123) rfl ?_
      show Steps _ _ _ (T21.setTop (mkF m 125 #[vI p1, vI p2, vI mv, vI v2, vI (own_ws v2), vI v13, vI 1, vI v20] [iI (own_ws v2)])) _
      refine XS.iload X21.here hx rfl (hb hby at_125) rfl ?_
      show Steps _ _ _ (T21.setTop (mkF m 127 #[vI p1, vI p2, vI mv, vI v2, vI (own_ws v2), vI v13, vI 1, vI v20] [iI v13, iI (own_ws v2)])) _
      refine XS.icmpNo X21.here hx rfl (hb hby at_127) rfl (teq hh23).2 ?_
      show Steps _ _ _ (T21.setTop (mkF m 130 #[vI p1, vI p2, vI mv, vI v2, vI (own_ws v2), vI v13, vI 1, vI v20] [])) _
      refine XS.iload X21.here hx rfl (hb hby at_130) rfl ?_
      show Steps _ _ _ (T21.setTop (mkF m 132 #[vI p1, vI p2, vI mv, vI v2, vI (own_ws v2), vI v13, vI 1, vI v20] [iI 1])) _
      refine XS.ifNo X21.here hx rfl (hb hby at_132) rfl ((if0 _ _).trans (feq (by decide : ¬ ((1 : Int32) = (0 : Int32)))).1) ?_
      show Steps _ _ _ (T21.setTop (mkF m 135 #[vI p1, vI p2, vI mv, vI v2, vI (own_ws v2), vI v13, vI 1, vI v20] [])) _
      refine XS.iload X21.here hx rfl (hb hby at_135) rfl ?_
      show Steps _ _ _ (T21.setTop (mkF m 137 #[vI p1, vI p2, vI mv, vI v2, vI (own_ws v2), vI v13, vI 1, vI v20] [iI v20])) _
      refine XS.ifNo X21.here hx rfl (hb hby at_137) rfl ((if0 _ _).trans (feq hh24).1) ?_
      show Steps _ _ _ (T21.setTop (mkF m 140 #[vI p1, vI p2, vI mv, vI v2, vI (own_ws v2), vI v13, vI 1, vI v20] [])) _
      refine XS.iconst X21.here hx rfl (hb hby at_140) ?_
      show Steps _ _ _ (T21.setTop (mkF m 141 #[vI p1, vI p2, vI mv, vI v2, vI (own_ws v2), vI v13, vI 1, vI v20] [iI 1])) _
      refine XS.goto X21.here hx rfl (pc0 := 141) (pc' := 145) rfl (hb hby at_141) (by decide) (by decide) ?_
      show Steps _ _ _ (T21.setTop (mkF m 145 #[vI p1, vI p2, vI mv, vI v2, vI (own_ws v2), vI v13, vI 1, vI v20] [iI 1])) _
      exact retN X21 hx (t := .boolean) Bd.returns (by simp) (hb hby at_145) hr
    · show Q0 Z p1 p2 s_T cl h0 _ T21.heap _
      rw [e21]
      exact ⟨rfl, rfl, rfl⟩
  · obtain ⟨_, _, ⟨T25, L25, k25, n25⟩, -, X25, ⟨Lc25, hQ25, l25, y25, z25⟩, st25⟩ := Jvm.LawKit.callS X14 hx (y := (⟨"io/headrace/core/HttpChars", "isTchar", "(I)Z"⟩ : MethodName)) hown (mvT hZ (hw _ (List.mem_of_getElem? (i := 7) rfl))) (mvT hZ (hw _ (List.mem_of_getElem? (i := 8) rfl))) (mvT hZ (hw _ (List.mem_of_getElem? (i := 2) rfl))) (mvT hZ (hw _ (List.mem_of_getElem? (i := 9) rfl))) (by decide) (backOf (W := 0) (rm3 l Z a0 hw [] v2 s_T cl h0 S_T TB hT) hZ (hw _ (List.mem_of_getElem? (i := 9) rfl)) (hw _ (List.mem_of_getElem? (i := 2) rfl)) (by decide) (by decide)) (g := (mkF m 93 #[vI p1, vI p2, vI mv, vI v2, vI (own_ws v2), vI v13, .unset, .unset] [iI v2])) rfl (by rw [hml]; rfl) (argsL := [(.int v2)]) (rest := []) (lenOf pd_0 rfl) rfl (by show 2 * 0 + _ ≤ _; exact Nat.le_of_eq rfl) (hb hby at_93) (fun _ _ => ⟨rfl, e14, (by decide : 0 + 0 ≤ _), (by decide : 0 + 0 ≤ _)⟩)
    dsimp only [Pt.U, Pt.locs, Pt.cells, Pt.slots] at X25 l25 y25 z25 st25 hQ25
    subst l25 y25 z25
    obtain ⟨rfl, rfl, e25⟩ := hQ25
    try rw [List.append_nil] at X25
    have hh26 : (own_isT v2 cl) = (0 : Int32) := own_tab v2 cl hT hc18
    obtain ⟨T27, X27, e27, st27⟩ : own_Mid X25 h0 (mkF m 108 #[vI p1, vI p2, vI mv, vI v2, vI (own_ws v2), vI v13, vI 1, .unset] [iI 3, iI mv]) (mkF m 121 #[vI p1, vI p2, vI mv, vI v2, vI (own_ws v2), vI v13, vI 1, .unset] [iI 1]) := by
      by_cases hc28 : mv = (3 : Int32)
      · refine ⟨T25, X25, e25, fun t kt => ?_⟩
        show Steps _ _ _ (T25.setTop (mkF m 108 #[vI p1, vI p2, vI mv, vI v2, vI (own_ws v2), vI v13, vI 1, .unset] [iI 3, iI mv])) _
        refine XS.icmpNo X25.here hx rfl (hb hby at_108) rfl (teq hc28).2 ?_
        show Steps _ _ _ (T25.setTop (mkF m 111 #[vI p1, vI p2, vI mv, vI v2, vI (own_ws v2), vI v13, vI 1, .unset] [])) _
        refine XS.iload X25.here hx rfl (hb hby at_111) rfl ?_
        show Steps _ _ _ (T25.setTop (mkF m 113 #[vI p1, vI p2, vI mv, vI v2, vI (own_ws v2), vI v13, vI 1, .unset] [iI (own_ws v2)])) _
        refine XS.ifNo X25.here hx rfl (hb hby at_113) rfl ((if0 _ _).trans (feq hc18).1) ?_
        show Steps _ _ _ (T25.setTop (mkF m 116 #[vI p1, vI p2, vI mv, vI v2, vI (own_ws v2), vI v13, vI 1, .unset] [])) _
        refine XS.iconst X25.here hx rfl (hb hby at_116) ?_
        show Steps _ _ _ (T25.setTop (mkF m 117 #[vI p1, vI p2, vI mv, vI v2, vI (own_ws v2), vI v13, vI 1, .unset] [iI 1])) _
        refine XS.goto X25.here hx rfl (pc0 := 117) (pc' := 121) rfl (hb hby at_117) (by decide) (by decide) ?_
        exact kt
      · refine ⟨T25, X25, e25, fun t kt => ?_⟩
        show Steps _ _ _ (T25.setTop (mkF m 108 #[vI p1, vI p2, vI mv, vI v2, vI (own_ws v2), vI v13, vI 1, .unset] [iI 3, iI mv])) _
        refine XS.icmpYes X25.here hx rfl (pc0 := 108) (pc' := 116) rfl (hb hby at_108) rfl (feq hc28).2 (by decide) (by decide) ?_
        show Steps _ _ _ (T25.setTop (mkF m 116 #[vI p1, vI p2, vI mv, vI v2, vI (own_ws v2), vI v13, vI 1, .unset] [])) _
        refine XS.iconst X25.here hx rfl (hb hby at_116) ?_
        show Steps _ _ _ (T25.setTop (mkF m 117 #[vI p1, vI p2, vI mv, vI v2, vI (own_ws v2), vI v13, vI 1, .unset] [iI 1])) _
        refine XS.goto X25.here hx rfl (pc0 := 117) (pc' := 121) rfl (hb hby at_117) (by decide) (by decide) ?_
        exact kt
    have hh29 : (own_ws v2) = v13 := (by rw [hv13]; exact own_eq _)
    obtain ⟨fs, hr, hrun, hended, hW, hsame⟩ := X27.leave (v := some (.int (1 : Int32))) (fun h => by rw [Bd.returns] at h; cases h)
    refine ⟨_, _, pre19 _ ?_, hrun, hended, _, _, rfl, ?_, ⟨_, rfl⟩, hW, hsame.mono (by decide) (by decide)⟩
    · show Steps _ _ _ (T14.setTop (mkF m 89 #[vI p1, vI p2, vI mv, vI v2, vI (own_ws v2), vI v13, .unset, .unset] [iI (own_ws v2)])) _
      refine XS.ifNo X14.here hx rfl (hb hby at_89) rfl ((if0 _ _).trans (feq hc18).1) ?_
      show Steps _ _ _ (T14.setTop (mkF m 92 #[vI p1, vI p2, vI mv, vI v2, vI (own_ws v2), vI v13, .unset, .unset] [])) _
      refine XS.iloadN X14.here hx rfl (hb hby at_92) rfl ?_
      show Steps _ _ _ (T14.setTop (mkF m 93 #[vI p1, vI p2, vI mv, vI v2, vI (own_ws v2), vI v13, .unset, .unset] [iI v2])) _
      refine st25 _ ?_
      show Steps _ _ _ (T25.setTop (mkF m 96 #[vI p1, vI p2, vI mv, vI v2, vI (own_ws v2), vI v13, .unset, .unset] [iI (own_isT v2 cl)])) _
      refine XS.ifNo X25.here hx rfl (hb hby at_96) rfl ((if0 _ _).trans (teq hh26).2) ?_
      show Steps _ _ _ (T25.setTop (mkF m 99 #[vI p1, vI p2, vI mv, vI v2, vI (own_ws v2), vI v13, .unset, .unset] [])) _
      refine XS.iconst X25.here hx rfl (hb hby at_99) ?_
      show Steps _ _ _ (T25.setTop (mkF m 100 #[vI p1, vI p2, vI mv, vI v2, vI (own_ws v2), vI v13, .unset, .unset] [iI 1])) _
      refine XS.goto X25.here hx rfl (pc0 := 100) (pc' := 104) rfl (hb hby at_100) (by decide) (by decide) ?_
      show Steps _ _ _ (T25.setTop (mkF m 104 #[vI p1, vI p2, vI mv, vI v2, vI (own_ws v2), vI v13, .unset, .unset] [iI 1])) _
      refine XS.istore X25.here hx rfl (hb hby at_104) rfl (l' := #[vI p1, vI p2, vI mv, vI v2, vI (own_ws v2), vI v13, vI 1, .unset]) rfl ?_
      show Steps _ _ _ (T25.setTop (mkF m 106 #[vI p1, vI p2, vI mv, vI v2, vI (own_ws v2), vI v13, vI 1, .unset] [])) _
      refine XS.iloadN X25.here hx rfl (hb hby at_106) rfl ?_
      show Steps _ _ _ (T25.setTop (mkF m 107 #[vI p1, vI p2, vI mv, vI v2, vI (own_ws v2), vI v13, vI 1, .unset] [iI mv])) _
      refine XS.iconst X25.here hx rfl (hb hby at_107) ?_
      show Steps _ _ _ (T25.setTop (mkF m 108 #[vI p1, vI p2, vI mv, vI v2, vI (own_ws v2), vI v13, vI 1, .unset] [iI 3, iI mv])) _
      refine st27 _ ?_
      show Steps _ _ _ (T27.setTop (mkF m 121 #[vI p1, vI p2, vI mv, vI v2, vI (own_ws v2), vI v13, vI 1, .unset] [iI 1])) _
      refine XS.istore X27.here hx rfl (hb hby at_121) rfl (l' := #[vI p1, vI p2, vI mv, vI v2, vI (own_ws v2), vI v13, vI 1, vI 1]) rfl ?_
      show Steps _ _ _ (T27.setTop (mkF m 123 #[vI p1, vI p2, vI mv, vI v2, vI (own_ws v2), vI v13, vI 1, vI 1] [])) _
      refine XS.iload X27.here hx rfl (hb hby at_123) rfl ?_
      show Steps _ _ _ (T27.setTop (mkF m 125 #[vI p1, vI p2, vI mv, vI v2, vI (own_ws v2), vI v13, vI 1, vI 1] [iI (own_ws v2)])) _
      refine XS.iload X27.here hx rfl (hb hby at_125) rfl ?_
      show Steps _ _ _ (T27.setTop (mkF m 127 #[vI p1, vI p2, vI mv, vI v2, vI (own_ws v2), vI v13, vI 1, vI 1] [iI v13, iI (own_ws v2)])) _
      refine XS.icmpNo X27.here hx rfl (hb hby at_127) rfl (teq hh29).2 ?_
      show Steps _ _ _ (T27.setTop (mkF m 130 #[vI p1, vI p2, vI mv, vI v2, vI (own_ws v2), vI v13, vI 1, vI 1] [])) _
      refine XS.iload X27.here hx rfl (hb hby at_130) rfl ?_
      show Steps _ _ _ (T27.setTop (mkF m 132 #[vI p1, vI p2, vI mv, vI v2, vI (own_ws v2), vI v13, vI 1, vI 1] [iI 1])) _
      refine XS.ifNo X27.here hx rfl (hb hby at_132) rfl ((if0 _ _).trans (feq (by decide : ¬ ((1 : Int32) = (0 : Int32)))).1) ?_
      show Steps _ _ _ (T27.setTop (mkF m 135 #[vI p1, vI p2, vI mv, vI v2, vI (own_ws v2), vI v13, vI 1, vI 1] [])) _
      refine XS.iload X27.here hx rfl (hb hby at_135) rfl ?_
      show Steps _ _ _ (T27.setTop (mkF m 137 #[vI p1, vI p2, vI mv, vI v2, vI (own_ws v2), vI v13, vI 1, vI 1] [iI 1])) _
      refine XS.ifNo X27.here hx rfl (hb hby at_137) rfl ((if0 _ _).trans (feq (by decide : ¬ ((1 : Int32) = (0 : Int32)))).1) ?_
      show Steps _ _ _ (T27.setTop (mkF m 140 #[vI p1, vI p2, vI mv, vI v2, vI (own_ws v2), vI v13, vI 1, vI 1] [])) _
      refine XS.iconst X27.here hx rfl (hb hby at_140) ?_
      show Steps _ _ _ (T27.setTop (mkF m 141 #[vI p1, vI p2, vI mv, vI v2, vI (own_ws v2), vI v13, vI 1, vI 1] [iI 1])) _
      refine XS.goto X27.here hx rfl (pc0 := 141) (pc' := 145) rfl (hb hby at_141) (by decide) (by decide) ?_
      show Steps _ _ _ (T27.setTop (mkF m 145 #[vI p1, vI p2, vI mv, vI v2, vI (own_ws v2), vI v13, vI 1, vI 1] [iI 1])) _
      exact retN X27 hx (t := .boolean) Bd.returns (by simp) (hb hby at_145) hr
    · show Q0 Z p1 p2 s_T cl h0 _ T27.heap _
      rw [e27]
      exact ⟨rfl, rfl, rfl⟩
set_option maxRecDepth 65536 in
set_option maxHeartbeats 40000000 in
theorem comes_1 {Post : Tables → Env → Array Value → State → Outcome → State → Prop} (hpost : ∀ tb e args s v u, (limb_1_1.after args s (.returned v) u = true ∧ limb_1_2.after args s (.returned v) u = true ∧ True) → FrameEnd s (.returned v) u (Jvm.fieldLocs frame_1_writes args s ++ Jvm.arrayLocs frame_1_arrays args s ++ Jvm.staticLocs frame_1_statics s) 0 0 → Post tb e args s (.returned v) u) :
    ArmFor flags0 classFile x code maxLocals ret World_1 tables_1 room_1 Calls_1 rest_1 Pre_1 Post := by
  intro l hfl _ _ p e ha hc hk s m args below hf hA hF happ hP
  obtain ⟨hcalls, hrest, hpre⟩ := hP
  obtain ⟨-, -, -, hnamed, -, -, -, hat⟩ := (Spec.applies_iff hf).mp happ
  obtain ⟨hg, hn⟩ := and_e (Cond.before_iff.mp (show (Jvm.Cond.and given_1 narrow_1).before args s = true from hpre))
  obtain ⟨gc, gr0⟩ := and_e hg
  obtain ⟨ga0, gr1⟩ := and_e gr0
  obtain ⟨w0, w1, rfl⟩ : ∃ w0 w1 : Value, args = #[w0, w1] := by
    have hs : args.size = 2 := by simpa [Cond.value, given_1] using gc
    obtain ⟨L⟩ := args
    match L, hs with
    | [w0, w1], _ => exact ⟨w0, w1, rfl⟩
  have hw := fun d (hd : d ∈ tables_1) => atoms_spec (ws := Jvm.Cond.code x code maxLocals ret :: tables_1) hat d (List.mem_cons_of_mem _ hd)
  have hfit : Fit s := fun {y c} hc i hi => by
    obtain ⟨ha, rfl⟩ := Array.getElem?_eq_some_iff.mp hc
    have q := List.all_eq_true.mp ((Array.all_eq_true_iff_forall_mem.mp hF) _ (Array.getElem_mem ha)) i (List.mem_range.mpr hi)
    simpa [Array.getElem?_eq_getElem hi] using q
  obtain ⟨i0, ei0⟩ := is_v ga0
  obtain rfl : w0 = (.int i0) := Option.some.inj ei0
  obtain ⟨i1, ei1⟩ := is_v gr1
  obtain rfl : w1 = (.int i1) := Option.some.inj ei1
  obtain ⟨u0, t0⟩ := and_e hn
  obtain ⟨u1, t1⟩ := and_e t0
  obtain ⟨u2, t2⟩ := and_e t1
  obtain ⟨u3, t3⟩ := and_e t2
  obtain ⟨u4, t4⟩ := and_e t3
  obtain ⟨u5, t5⟩ := and_e t4
  obtain ⟨u6, t6⟩ := and_e t5
  obtain ⟨u7, t7⟩ := and_e t6
  obtain ⟨u8, t8⟩ := and_e t7
  obtain ⟨u9, t9⟩ := and_e t8
  obtain ⟨u10, t10⟩ := and_e t9
  obtain ⟨u11, t11⟩ := and_e t10
  obtain ⟨u12, t12⟩ := and_e t11
  obtain ⟨u13, t13⟩ := and_e t12
  obtain ⟨u14, t14⟩ := and_e t13
  obtain ⟨u15, t15⟩ := and_e t14
  obtain ⟨u16, t16⟩ := and_e t15
  obtain ⟨u17, t17⟩ := and_e t16
  obtain ⟨u18, t18⟩ := and_e t17
  obtain ⟨u19, t19⟩ := and_e t18
  obtain ⟨u20, t20⟩ := and_e t19
  obtain ⟨u21, t21⟩ := and_e t20
  obtain ⟨u22, t22⟩ := and_e t21
  obtain ⟨u23, t23⟩ := and_e t22
  obtain ⟨u24, t24⟩ := and_e t23
  have u25 := t24
  obtain ⟨s_T, evT⟩ := arr_v u0
  obtain ⟨cl, Ar⟩ := Arr.start evT u0
  obtain ⟨hl1, hl2⟩ := own_len evT Ar u1
  have S_T : Sta s s.heap "io/headrace/core/HttpChars" "TCHAR" "[Z" (.ref s_T) := Sta.start evT (Or.inr ⟨(hw _ (List.mem_of_getElem? (i := 2) rfl)), (hw _ (List.mem_of_getElem? (i := 11) rfl))⟩)
  have TB : Tab s s.heap s_T cl .boolean (256 : Int32) := Tab.start hfit Ar (by simp) hl1 hl2 (by decide)
  have hT : ∀ j : Int32, ¬ j < (0 : Int32) → j < (33 : Int32) → atv cl j = 0 := by
    intro j h0 h1
    have h2 : j < (256 : Int32) := by rw [Int32.lt_iff_toInt_lt] at h1 ⊢; exact Int.lt_trans h1 (by decide)
    have hin : ¬ (j < 0 ∨ cl.slots.size ≤ j.toNatClampNeg) := inb_of TB.2.1 ⟨h0, h2⟩
    have hi : j.toNatClampNeg < cl.slots.size := Nat.lt_of_not_le fun q => hin (Or.inr q)
    have f2 : (33 : Int32) ≤ j ∨ atv cl j = 0 := (own_or (Cond.all_elim evT (Ar.fin (Vm.Alike.refl _)) u2 _ hi)).imp (fun q => gotT (Cond.le_ints (Term.int_eval _) (idx_at h0)) q) (fun q => atv_of (own_elem (idx := [j.toNatClampNeg]) evT (idx_at h0) Ar.1 q))
    exact f2.resolve_left (Int32.not_le.mpr h1)
  obtain ⟨n, o, h1, h2, h3, _, L, rfl, Qv, hq⟩ := rm0 l s _ hw tables_1 i0 i1 s_T cl s.heap S_T TB hT p e ha hc hk s m _ below hf ((Spec.applies_iff_loose hf).mp happ).1 ⟨rfl, State.Warmed39.refl s, rfl⟩ trivial
  obtain ⟨rfl, rfl, -⟩ := Qv
  have N := Fr.nil s.heap.size
  refine ⟨n, _, h1, h2, h3, hpost _ _ _ _ _ _ ⟨Cond.after_iff.mpr rfl, Cond.after_iff.mpr (eq_i res_at (Term.int_eval (1)) rfl), trivial⟩ ⟨hq.1, hq.2.1, (hq.2.2.sift fun y hy => Or.inr (N y hy)).mono (by decide) (by decide)⟩⟩
theorem main_1_1 : Claimed_1_1 := comes_1 fun _ _ _ _ _ _ h hF => ⟨h.1, hF⟩
theorem main_1_2 : Claimed_1_2 := comes_1 fun _ _ _ _ _ _ h hF => ⟨h.2.1, hF⟩
end Jvm.Pilot.@@N@@
namespace Jvm.Pilot.@@N@@
open Jvm Jvm.ClassFile Sem Op Lib Jvm.Free Jvm.Stand Jvm.Pilot.@@N@@.Jvm.D
/-! MADE BY PROGRAM (witnessworld.py) out of the Statement's table words and the real class files: 11 classes; the members and pool entries that the words name. The judged class is class 1, her method 1. -/
namespace start1
open Jvm.ClassFile
def u (s : String) : CpInfo := .utf8 (stringToUtf16 s)
/-- a pool by its gaps: so many unusable entries, then the entry; so many at the end -/
def gap : Nat → List CpInfo → List CpInfo
  | 0, r => r
  | n + 1, r => .unusable :: gap n r
def poolList (es : List (Nat × CpInfo)) (last : Nat) : List CpInfo := es.foldr (fun e r => gap e.1 (e.2 :: r)) (gap last [])
def pool (es : List (Nat × CpInfo)) (last : Nat) : Array CpInfo := ⟨poolList es last⟩
def fileOf (pool : Array CpInfo) (this : Nat) (attrs : Array Attribute := #[]) (ms : Array MethodInfo := #[]) (fl : Nat := 33) (sup : Nat := 0) (ifs : Array Nat := #[]) (fds : Array FieldInfo := #[]) : ClassFile where
  minorVersion := 0
  majorVersion := 65
  constantPool := pool
  accessFlags := fl
  thisClass := this
  superClass := sup
  interfaces := ifs
  fields := fds
  methods := ms
  attributes := attrs
def plain (name : String) (sup : Option ClassId) : Class where
  name := name
  kind := .ordinary
  loader := none
  accessFlags := 33
  super := sup
  interfaces := #[]
  cf := none
  fields := #[]
  methods := #[]
  instanceTypes := #[]
  staticTypes := #[]
  resolved := #[]
  callSites := []
  init := .initialized
  statics := none
  mirror := none

def pool0 : Array CpInfo := pool [(5, u "<init>"), (0, u "()V"), (1, .class_ 10), (1, u "java/lang/Object")] 113

def k0m0 : Method := { name := "<init>", desc := "()V", sig := { parameters := [], returnType := none }, accessFlags := 1, code := none }
/-- java/lang/Object -/
def k0 : Class := { plain "java/lang/Object" none with
  accessFlags := 33
  interfaces := #[]
  cf := some (fileOf pool0 8 #[] #[{ accessFlags := 1, nameIndex := 5, descriptorIndex := 6, attributes := #[] }] 33 0 #[] #[])
  fields := #[]
  methods := #[k0m0]
  instanceTypes := #[]
  staticTypes := #[]
  resolved := Array.replicate 124 none
  statics := none }

def pool1 : Array CpInfo := pool [(2, .class_ 4), (1, u "java/lang/Object"), (0, u "<init>"), (0, u "()V"), (0, .methodref 8 9), (0, .class_ 10), (0, .nameAndType 11 12), (0, u "io/headrace/core/HttpChars"), (0, u "isWhitespace"), (0, u "(I)Z"), (0, .methodref 8 14), (0, .nameAndType 15 12), (0, u "isFieldValueChar"), (0, .methodref 8 17), (0, .nameAndType 18 12), (0, u "isTchar"), (0, .class_ 20), (0, u "io/headrace/core/HttpCharsIsWhitespacePinLaw"), (2, u "law"), (0, u "(II)Z")] 3

def k1m0 : Method := { name := "<init>", desc := "()V", sig := { parameters := [], returnType := none }, accessFlags := 2, code := none }
def k1c1 : Code := { maxStack := 2, maxLocals := 8, code := code, exceptionTable := #[], attributes := #[] }
def k1m1 : Method := { name := "law", desc := "(II)Z", sig := { parameters := [.int, .int], returnType := some .boolean }, accessFlags := 9, code := some k1c1 }
/-- io/headrace/core/HttpCharsIsWhitespacePinLaw -/
def k1 : Class := { plain "io/headrace/core/HttpCharsIsWhitespacePinLaw" (some 0) with
  accessFlags := 49
  interfaces := #[]
  cf := some (fileOf pool1 19 #[] #[{ accessFlags := 2, nameIndex := 5, descriptorIndex := 6, attributes := #[] }, { accessFlags := 9, nameIndex := 23, descriptorIndex := 24, attributes := #[] }] 49 2 #[] #[])
  fields := #[]
  methods := #[k1m0, k1m1]
  instanceTypes := #[]
  staticTypes := #[]
  resolved := Array.replicate 28 none
  statics := none }

def pool2 : Array CpInfo := pool [(2, .class_ 4), (1, u "java/lang/Object"), (0, u "<init>"), (0, u "()V"), (0, .fieldref 8 9), (0, .class_ 10), (0, .nameAndType 11 12), (0, u "io/headrace/core/HttpChars"), (0, u "TCHAR"), (0, u "[Z"), (12, u "isTchar"), (0, u "(I)Z"), (25, u "isWhitespace"), (0, u "isFieldValueChar")] 7

def k2m0 : Method := { name := "<init>", desc := "()V", sig := { parameters := [], returnType := none }, accessFlags := 2, code := none }
def k2c1 : Code := { maxStack := 2, maxLocals := 1, code := prog_7_method_2_code, exceptionTable := #[], attributes := #[] }
def k2m1 : Method := { name := "isTchar", desc := "(I)Z", sig := { parameters := [.int], returnType := some .boolean }, accessFlags := 9, code := some k2c1 }
def k2c2 : Code := { maxStack := 2, maxLocals := 1, code := prog_7_method_4_code, exceptionTable := #[], attributes := #[] }
def k2m2 : Method := { name := "isWhitespace", desc := "(I)Z", sig := { parameters := [.int], returnType := some .boolean }, accessFlags := 9, code := some k2c2 }
def k2c3 : Code := { maxStack := 2, maxLocals := 1, code := prog_7_method_5_code, exceptionTable := #[], attributes := #[] }
def k2m3 : Method := { name := "isFieldValueChar", desc := "(I)Z", sig := { parameters := [.int], returnType := some .boolean }, accessFlags := 9, code := some k2c3 }
/-- io/headrace/core/HttpChars -/
def k2 : Class := { plain "io/headrace/core/HttpChars" (some 0) with
  accessFlags := 49
  interfaces := #[]
  cf := some (fileOf pool2 8 #[] #[{ accessFlags := 2, nameIndex := 5, descriptorIndex := 6, attributes := #[] }, { accessFlags := 9, nameIndex := 25, descriptorIndex := 26, attributes := #[] }, { accessFlags := 9, nameIndex := 52, descriptorIndex := 26, attributes := #[] }, { accessFlags := 9, nameIndex := 53, descriptorIndex := 26, attributes := #[] }] 49 2 #[] #[{ accessFlags := 26, nameIndex := 11, descriptorIndex := 12, attributes := #[] }])
  fields := #[{ name := "TCHAR", type := (.array .boolean), accessFlags := 26, slot := 0, constantValue := 0 }]
  methods := #[k2m0, k2m1, k2m2, k2m3]
  instanceTypes := #[]
  staticTypes := #[(.array .boolean)]
  resolved := Array.replicate 61 none
  statics := some 0 }

def pool3 : Array CpInfo := pool [(1, u "java/lang/Cloneable"), (0, .class_ 1), (0, u "java/lang/Object"), (0, .class_ 3)] 3

/-- java/lang/Cloneable -/
def k3 : Class := { plain "java/lang/Cloneable" (some 0) with
  accessFlags := 1537
  interfaces := #[]
  cf := some (fileOf pool3 2 #[] #[] 1537 4 #[] #[])
  fields := #[]
  methods := #[]
  instanceTypes := #[]
  staticTypes := #[]
  resolved := Array.replicate 8 none
  statics := none }

def pool4 : Array CpInfo := pool [(1, u "java/io/Serializable"), (0, .class_ 1), (0, u "java/lang/Object"), (0, .class_ 3)] 3

/-- java/io/Serializable -/
def k4 : Class := { plain "java/io/Serializable" (some 0) with
  accessFlags := 1537
  interfaces := #[]
  cf := some (fileOf pool4 2 #[] #[] 1537 4 #[] #[])
  fields := #[]
  methods := #[]
  instanceTypes := #[]
  staticTypes := #[]
  resolved := Array.replicate 8 none
  statics := none }

/-- the primitive boolean -/
def k5 : Class := { plain "boolean" none with kind := .primitive 'Z', accessFlags := 0x411 }
/-- [Z -/
def k6 : Class := { plain "[Z" (some 0) with kind := .array 5 .boolean, interfaces := #[3, 4], accessFlags := 1041 }

/-- the primitive byte -/
def k7 : Class := { plain "byte" none with kind := .primitive 'B', accessFlags := 0x411 }
/-- [B -/
def k8 : Class := { plain "[B" (some 0) with kind := .array 7 .byte, interfaces := #[3, 4], accessFlags := 1041 }

/-- the primitive int -/
def k9 : Class := { plain "int" none with kind := .primitive 'I', accessFlags := 0x411 }
/-- [I -/
def k10 : Class := { plain "[I" (some 0) with kind := .array 9 .int, interfaces := #[3, 4], accessFlags := 1041 }

def heap : Heap := #[{ cls := 2, slots := #[.ref 1], vm := .statics 2 },
  { cls := 6, slots := #[.int 0, .int 0, .int 0, .int 0, .int 0, .int 0, .int 0, .int 0, .int 0, .int 0, .int 0, .int 0, .int 0, .int 0, .int 0, .int 0, .int 0, .int 0, .int 0, .int 0, .int 0, .int 0, .int 0, .int 0, .int 0, .int 0, .int 0, .int 0, .int 0, .int 0, .int 0, .int 0, .int 0, .int 1, .int 0, .int 1, .int 1, .int 1, .int 1, .int 1, .int 0, .int 0, .int 1, .int 1, .int 0, .int 1, .int 1, .int 0, .int 1, .int 1, .int 1, .int 1, .int 1, .int 1, .int 1, .int 1, .int 1, .int 1, .int 0, .int 0, .int 0, .int 0, .int 0, .int 0, .int 0, .int 1, .int 1, .int 1, .int 1, .int 1, .int 1, .int 1, .int 1, .int 1, .int 1, .int 1, .int 1, .int 1, .int 1, .int 1, .int 1, .int 1, .int 1, .int 1, .int 1, .int 1, .int 1, .int 1, .int 1, .int 1, .int 1, .int 0, .int 0, .int 0, .int 1, .int 1, .int 1, .int 1, .int 1, .int 1, .int 1, .int 1, .int 1, .int 1, .int 1, .int 1, .int 1, .int 1, .int 1, .int 1, .int 1, .int 1, .int 1, .int 1, .int 1, .int 1, .int 1, .int 1, .int 1, .int 1, .int 1, .int 1, .int 1, .int 0, .int 1, .int 0, .int 1, .int 0, .int 0, .int 0, .int 0, .int 0, .int 0, .int 0, .int 0, .int 0, .int 0, .int 0, .int 0, .int 0, .int 0, .int 0, .int 0, .int 0, .int 0, .int 0, .int 0, .int 0, .int 0, .int 0, .int 0, .int 0, .int 0, .int 0, .int 0, .int 0, .int 0, .int 0, .int 0, .int 0, .int 0, .int 0, .int 0, .int 0, .int 0, .int 0, .int 0, .int 0, .int 0, .int 0, .int 0, .int 0, .int 0, .int 0, .int 0, .int 0, .int 0, .int 0, .int 0, .int 0, .int 0, .int 0, .int 0, .int 0, .int 0, .int 0, .int 0, .int 0, .int 0, .int 0, .int 0, .int 0, .int 0, .int 0, .int 0, .int 0, .int 0, .int 0, .int 0, .int 0, .int 0, .int 0, .int 0, .int 0, .int 0, .int 0, .int 0, .int 0, .int 0, .int 0, .int 0, .int 0, .int 0, .int 0, .int 0, .int 0, .int 0, .int 0, .int 0, .int 0, .int 0, .int 0, .int 0, .int 0, .int 0, .int 0, .int 0, .int 0, .int 0, .int 0, .int 0, .int 0, .int 0, .int 0, .int 0, .int 0, .int 0, .int 0, .int 0, .int 0, .int 0, .int 0, .int 0, .int 0, .int 0, .int 0, .int 0, .int 0, .int 0, .int 0, .int 0, .int 0, .int 0, .int 0, .int 0, .int 0], vm := .none }]
def classes : Array Class := #[k0, k1, k2, k3, k4, k5, k6, k7, k8, k9, k10]
def interned : List (Array UInt16 × Addr) := []
def slotsUsed : Nat := 257
def theMethod : MethodId := ⟨1, 1⟩
def args0 : Array Value := #[.int 5, .int 3]
def aboutOver (below : List Frame) : State where
  vm := { classes := classes, interned := interned.toArray }
  heap := heap
  slotsUsed := slotsUsed
  threads := #[{ frames := .invoking theMethod args0 :: below }]
def below0 : List Frame := [.native { method := ⟨0, 0⟩, args := #[] }]
def about1 : State := aboutOver below0
def p0 : Program := .bare "" "" ""
def e0 : Env := launch0.env 0 0 0
theorem w_frames : about1.frames = Frame.invoking theMethod args0 :: below0 := rfl
set_option maxRecDepth 65536 in
theorem w_args : argsFit about1.vm theMethod args0 = true := by decide +kernel
set_option maxRecDepth 65536 in
theorem w_heap : heapFits about1 = true := by decide +kernel
set_option maxRecDepth 65536 in
theorem w_runnable : about1.curStatus? = some .runnable := by decide +kernel
set_option maxRecDepth 65536 in
theorem w_alone : about1.alone = true := by decide +kernel
set_option maxRecDepth 65536 in
theorem w_named : about1.methodNamed? x = some theMethod := by decide +kernel
set_option maxRecDepth 65536 in
theorem w_hears : about1.hears theMethod below0 = true := by decide +kernel
set_option maxRecDepth 65536 in
theorem w_ripe : about1.ripe theMethod args0 below0 = true := by decide +kernel
theorem w_running : about1.status = .running := rfl
set_option maxRecDepth 65536 in
theorem w_room : about1.hasRoom e0.platform room_1 = true :=
  launch0.hasRoom_least _ room_1 (by decide +kernel) (by decide +kernel) (by decide +kernel) (by decide +kernel) (by decide +kernel) (by decide +kernel)
theorem allAtoms_all (ts : List Jvm.Cond) (a : Array Jvm.Value) (st : Jvm.State) : (allAtoms ts).before a st = ts.all (fun c => c.before a st) := by
  induction ts with
  | nil => rfl
  | cons c t ih =>
    show (Jvm.Cond.and c (allAtoms t)).before a st = _
    rw [Jvm.Cond.before_and, ih, List.all_cons]
def words1 : List Jvm.Cond := Jvm.Cond.code x code maxLocals ret :: tables_1
/-- a 'code' word, met by the world's own term for the bytes: nothing is compared byte by byte -/
theorem code_word {y : MethodName} {bytes : ByteArray} {mx : Nat} {rt : Option FieldType} {a : Array Value} {s : State} {m : MethodId} {meth : Method} {c : Code} (h1 : s.methodNamed? y = some m) (h2 : s.vm.method? m = some meth) (h3 : meth.code = some c) (h4 : c.code = bytes)
    (h5 : (c.maxLocals == mx && c.exceptionTable.isEmpty && decide (c.maxStack ≤ mostOperands) && decide (meth.sig.returnType = rt) && !meth.locks && decide (parseMethodDescriptor y.desc = some meth.sig)) = true) : (Jvm.Cond.code y bytes mx rt).before a s = true := by
  simp only [Bool.and_eq_true, beq_iff_eq, Bool.not_eq_true', decide_eq_true_eq] at h5
  obtain ⟨⟨⟨⟨⟨g1, g2⟩, g3⟩, g4⟩, g5⟩, g6⟩ := h5
  simp [Cond.before, Cond.holds, Cond.value, h1, h2, h3, h4, g1, g2, g3, g4, g5, g6]
def isCode : Jvm.Cond → Bool
  | .code _ _ _ _ => true
  | _ => false
theorem all_split {L : List Jvm.Cond} {P : Jvm.Cond → Bool} (h1 : L.all (fun c => isCode c || P c) = true) (h2 : ∀ c ∈ L.filter isCode, P c = true) : L.all P = true := by
  refine List.all_eq_true.mpr fun c hc => ?_
  have h := List.all_eq_true.mp h1 c hc
  rcases Bool.eq_false_or_eq_true (isCode c) with hi | hi
  · exact h2 c (List.mem_filter.mpr ⟨hc, hi⟩)
  · simpa [hi] using h
set_option maxRecDepth 65536 in
theorem w_c0 : (Jvm.Cond.code x code maxLocals ret).before args0 about1 = true := code_word (m := ⟨1, 1⟩) (meth := k1m1) (c := k1c1) (by decide +kernel) rfl rfl rfl (by decide +kernel)
set_option maxRecDepth 65536 in
theorem w_c1 : (Jvm.Cond.code ({ cls := "io/headrace/core/HttpChars", name := "isWhitespace", desc := "(I)Z" } : Jvm.MethodName) prog_7_method_4_code (1 : Nat) (Option.some Jvm.ClassFile.FieldType.boolean)).before args0 about1 = true := code_word (m := ⟨2, 2⟩) (meth := k2m2) (c := k2c2) (by decide +kernel) rfl rfl rfl (by decide +kernel)
set_option maxRecDepth 65536 in
theorem w_c2 : (Jvm.Cond.code ({ cls := "io/headrace/core/HttpChars", name := "isFieldValueChar", desc := "(I)Z" } : Jvm.MethodName) prog_7_method_5_code (1 : Nat) (Option.some Jvm.ClassFile.FieldType.boolean)).before args0 about1 = true := code_word (m := ⟨2, 3⟩) (meth := k2m3) (c := k2c3) (by decide +kernel) rfl rfl rfl (by decide +kernel)
set_option maxRecDepth 65536 in
theorem w_c3 : (Jvm.Cond.code ({ cls := "io/headrace/core/HttpChars", name := "isTchar", desc := "(I)Z" } : Jvm.MethodName) prog_7_method_2_code (1 : Nat) (Option.some Jvm.ClassFile.FieldType.boolean)).before args0 about1 = true := code_word (m := ⟨2, 1⟩) (meth := k2m1) (c := k2c1) (by decide +kernel) rfl rfl rfl (by decide +kernel)
def codes1 : List Jvm.Cond := [Jvm.Cond.code x code maxLocals ret, Jvm.Cond.code ({ cls := "io/headrace/core/HttpChars", name := "isWhitespace", desc := "(I)Z" } : Jvm.MethodName) prog_7_method_4_code (1 : Nat) (Option.some Jvm.ClassFile.FieldType.boolean), Jvm.Cond.code ({ cls := "io/headrace/core/HttpChars", name := "isFieldValueChar", desc := "(I)Z" } : Jvm.MethodName) prog_7_method_5_code (1 : Nat) (Option.some Jvm.ClassFile.FieldType.boolean), Jvm.Cond.code ({ cls := "io/headrace/core/HttpChars", name := "isTchar", desc := "(I)Z" } : Jvm.MethodName) prog_7_method_2_code (1 : Nat) (Option.some Jvm.ClassFile.FieldType.boolean)]
set_option maxRecDepth 65536 in
theorem codes_eq : words1.filter isCode = codes1 := rfl
theorem w_codes : ∀ c ∈ words1.filter isCode, c.before args0 about1 = true := by
  rw [codes_eq]
  intro c hc
  simp only [codes1, List.mem_cons, List.not_mem_nil, or_false] at hc
  rcases hc with rfl | rfl | rfl | rfl
  · exact w_c0
  · exact w_c1
  · exact w_c2
  · exact w_c3
set_option maxRecDepth 65536 in
theorem w_t1 : words1.all (fun c => isCode c || c.before args0 about1) = true := by decide +kernel
theorem w_tables : (allAtoms (Jvm.Cond.code x code maxLocals ret :: tables_1)).before args0 about1 = true := by
  rw [allAtoms_all]
  show words1.all (fun c => c.before args0 about1) = true
  refine all_split ?_ w_codes
  rw [w_t1]
set_option maxRecDepth 65536 in
theorem w_case : (Jvm.Cond.and given_1 narrow_1).before args0 about1 = true := by decide +kernel
theorem w_applies : (headSpec (Jvm.Cond.code x code maxLocals ret :: tables_1) room_1).applies x e0.platform about1 = true :=
  (Spec.applies_iff w_frames).mpr ⟨w_running, w_runnable, w_alone, w_named, w_hears, w_ripe, w_room, w_tables⟩
theorem atStart : AtStart classFile x code maxLocals ret World_1 tables_1 room_1 Calls_1 rest_1 Pre_1 launch0 p0 e0 about1 theMethod args0 below0 :=
  ⟨lists_1, trivial, launch0.admits_env _ _ _, launch0.least_env, fairChoices_fair.cas, fairChoices_fair.clock, w_frames, w_args, w_heap, w_applies, trivial, trivial, w_case⟩
end start1
theorem witness_1 : WitnessClaimed_1 := ⟨start1.p0, start1.e0, start1.about1, start1.theMethod, start1.args0, start1.below0, start1.atStart⟩
end Jvm.Pilot.@@N@@
