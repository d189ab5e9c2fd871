import JvmDerived
import JvmDerived.Pilot.@@N@@Statement
import JvmDerived.Pilot.@@N@@Code
set_option linter.unusedVariables false
set_option linter.unusedSimpArgs false
namespace Jvm.RoadKit
open Sem ClassFile Op Lib Jvm.Stand Jvm.Free Jvm.LawKit
section New
variable {p : Program} {l : Launch} {e : Env} {R : Room} {s : State} {m : MethodId} {args : Array Value} {below : List Frame} {meth : Method} {c : Code} {T : State} {locs : List Loc} {cells slots : Nat}
theorem retI (X : Stand p l e R s m args below meth c T locs cells slots) (hx : p.tables.exec = Jvm.exec) {pc : Nat} {Ls : Array Slot} {z : Int32} {rest : List Value} (hret : meth.sig.returnType = some .int) (hd : decode c.code pc = .ok (.ireturn, 1)) {fs : List Frame}
    (hl : ∀ (f : JFrame) (acts : List Action), f.method = m → f.locked = none → f.entered = [] → (doReturn e (T.setTop f) acts (some (.int z))).1 = T.setFrames fs) : Steps p.tables e below (T.setTop (mkF m pc Ls (.int z :: rest))) (T.setFrames fs) := by
  have hm' : T.vm.method? m = some meth := X.method'
  have hn : narrow .int (.int z) = .int z := rfl
  show Steps p.tables e below (T.setTop { method := m, pc := pc, locals := Ls, stack := _ :: rest, locked := none }) _
  jvm_step X.here [X.here.top, hx, hd, hm', hret, hn]
  first | (intro acts; rw [hl _ acts rfl rfl rfl]) | rw [hl _ _ rfl rfl rfl]
  exact Steps.refl _
abbrev vI (x : Int32) : Slot := .val (.int x)
abbrev vJ (x : Int64) : Slot := .val (.long x)
abbrev vR (x : Addr) : Slot := .val (.ref x)
abbrev iI (x : Int32) : Value := .int x
abbrev iJ (x : Int64) : Value := .long x
abbrev iR (x : Addr) : Value := .ref x
/-- from one frame to another over the same heap -/
def own_Mid (X : Stand p l e R s m args below meth c T locs cells slots) (h : Heap) (F F' : JFrame) : Prop :=
  ∃ T', Stand p l e R s m args below meth c T' locs cells slots ∧ T'.heap = h ∧ ∀ t, Steps p.tables e below (T'.setTop F') t → Steps p.tables e below (T.setTop F) t
end New
end Jvm.RoadKit
namespace Jvm.Pilot.@@N@@
open Jvm Jvm.ClassFile Sem Op Lib Jvm.Free Jvm.Stand Jvm.LawKit Jvm.RoadKit Bundle Jvm.Pilot.@@N@@.Jvm.D
theorem pd_0 : parseMethodDescriptor "(I)Z" = some ⟨[.int], some .boolean⟩ := by decide +kernel

theorem own_eqInt {args : Array Value} {s : State} {idx : List Nat} {t : Term} {k : Int32} {x : Value} (e1 : t.eval args s none idx s = some x) (h : (Jvm.Cond.eq t (Term.int k)).value args s none s idx = some true) : x = .int k := by
  have e2 : (Term.int k).eval args s none idx s = some (.int k) := Term.int_eval k
  simp only [Cond.value, e1, e2] at h
  cases x <;> simp at h
  rw [h]
theorem own_len {args : Array Value} {s : State} {t : Term} {a : Addr} {cl : Cell} {ty : FieldType} {n : Int32} (ht : t.eval args s none [] s = some (.ref a)) (A : Arr s s.heap a cl ty) (h : (Jvm.Cond.eq (Term.length t) (Term.int n)).value args s none s [] = some true) : cl.slots.size < 2 ^ 31 ∧ cl.slots.size.toInt32 = n := by
  obtain ⟨x, y, e1, e2, -, -⟩ := cmp_v (Or.inl h)
  have hx := own_eqInt e1 h
  have ha : s.arrayAt? a = some cl := A.fin (Vm.Alike.refl _)
  by_cases hl : cl.slots.size < 2 ^ 31
  · have e3 := len_f (first := s) (o := none) (idx := []) ht ha hl
    have e4 := Option.some.inj (e3.symm.trans e1)
    rw [hx] at e4
    exact ⟨hl, Value.int.inj e4⟩
  · simp [Term.eval, ht, ha, hl] at e1
theorem own_elem {args : Array Value} {s : State} {idx : List Nat} {t k : Term} {a : Addr} {cl : Cell} {j b : Int32} (ht : t.eval args s none idx s = some (.ref a)) (hj : k.eval args s none idx s = some (.int j)) (hc : s.heap[a]? = some cl) (h : (Jvm.Cond.eq (Term.elem t k) (Term.int b)).value args s none s idx = some true) : cl.slots[j.toNatClampNeg]? = some (.int b) := by
  obtain ⟨x, y, e1, e2, -, -⟩ := cmp_v (Or.inl h)
  have hx := own_eqInt e1 h
  rw [← hx]
  exact (elem_in e1 ht hj hc).2
theorem own_or {args : Array Value} {s : State} {idx : List Nat} {c d : Jvm.Cond} (h : (Jvm.Cond.or c d).value args s none s idx = some true) : c.value args s none s idx = some true ∨ d.value args s none s idx = some true := by
  cases hc : c.value args s none s idx with
  | none => simp [Cond.value, hc] at h
  | some b =>
    cases b
    · rw [Cond.or_of_right hc] at h; exact Or.inr h
    · exact Or.inl rfl

def own_ref (p1 : Int32) : Int32 := (if (p1 < (48 : Int32) ∨ (57 : Int32) < p1) then (if (p1 < (97 : Int32) ∨ (122 : Int32) < p1) then (if (p1 < (65 : Int32) ∨ (90 : Int32) < p1) then (nar .boolean (if p1 = (33 : Int32) then (1 : Int32) else (if p1 = (35 : Int32) then (1 : Int32) else (if p1 = (36 : Int32) then (1 : Int32) else (if p1 = (37 : Int32) then (1 : Int32) else (if p1 = (38 : Int32) then (1 : Int32) else (if p1 = (39 : Int32) then (1 : Int32) else (if p1 = (42 : Int32) then (1 : Int32) else (if p1 = (43 : Int32) then (1 : Int32) else (if p1 = (45 : Int32) then (1 : Int32) else (if p1 = (46 : Int32) then (1 : Int32) else (if p1 = (94 : Int32) then (1 : Int32) else (if p1 = (95 : Int32) then (1 : Int32) else (if p1 = (96 : Int32) then (1 : Int32) else (if p1 = (124 : Int32) then (1 : Int32) else (if p1 = (126 : Int32) then (1 : Int32) else (0 : Int32))))))))))))))))) else (1 : Int32)) else (1 : Int32)) else (1 : Int32))
theorem d2_0 : decode method_2_code 0 = .ok (.iload_n 0, 1) := by decide +kernel
theorem d2_1 : decode method_2_code 1 = .ok (.bipush 48, 2) := by decide +kernel
theorem d2_3 : decode method_2_code 3 = .ok (.if_icmp .lt 11, 3) := by decide +kernel
theorem d2_6 : decode method_2_code 6 = .ok (.iload_n 0, 1) := by decide +kernel
theorem d2_7 : decode method_2_code 7 = .ok (.bipush 57, 2) := by decide +kernel
theorem d2_9 : decode method_2_code 9 = .ok (.if_icmp .gt 5, 3) := by decide +kernel
theorem d2_12 : decode method_2_code 12 = .ok (.iconst 1, 1) := by decide +kernel
theorem d2_13 : decode method_2_code 13 = .ok (.ireturn, 1) := by decide +kernel
theorem d2_14 : decode method_2_code 14 = .ok (.iload_n 0, 1) := by decide +kernel
theorem d2_15 : decode method_2_code 15 = .ok (.bipush 97, 2) := by decide +kernel
theorem d2_17 : decode method_2_code 17 = .ok (.if_icmp .lt 11, 3) := by decide +kernel
theorem d2_20 : decode method_2_code 20 = .ok (.iload_n 0, 1) := by decide +kernel
theorem d2_21 : decode method_2_code 21 = .ok (.bipush 122, 2) := by decide +kernel
theorem d2_23 : decode method_2_code 23 = .ok (.if_icmp .gt 5, 3) := by decide +kernel
theorem d2_26 : decode method_2_code 26 = .ok (.iconst 1, 1) := by decide +kernel
theorem d2_27 : decode method_2_code 27 = .ok (.ireturn, 1) := by decide +kernel
theorem d2_28 : decode method_2_code 28 = .ok (.iload_n 0, 1) := by decide +kernel
theorem d2_29 : decode method_2_code 29 = .ok (.bipush 65, 2) := by decide +kernel
theorem d2_31 : decode method_2_code 31 = .ok (.if_icmp .lt 11, 3) := by decide +kernel
theorem d2_34 : decode method_2_code 34 = .ok (.iload_n 0, 1) := by decide +kernel
theorem d2_35 : decode method_2_code 35 = .ok (.bipush 90, 2) := by decide +kernel
theorem d2_37 : decode method_2_code 37 = .ok (.if_icmp .gt 5, 3) := by decide +kernel
theorem d2_40 : decode method_2_code 40 = .ok (.iconst 1, 1) := by decide +kernel
theorem d2_41 : decode method_2_code 41 = .ok (.ireturn, 1) := by decide +kernel
theorem d2_42 : decode method_2_code 42 = .ok (.iload_n 0, 1) := by decide +kernel
theorem d2_43 : decode method_2_code 43 = .ok (.bipush 33, 2) := by decide +kernel
theorem d2_45 : decode method_2_code 45 = .ok (.if_icmp .eq 87, 3) := by decide +kernel
theorem d2_48 : decode method_2_code 48 = .ok (.iload_n 0, 1) := by decide +kernel
theorem d2_49 : decode method_2_code 49 = .ok (.bipush 35, 2) := by decide +kernel
theorem d2_51 : decode method_2_code 51 = .ok (.if_icmp .eq 81, 3) := by decide +kernel
theorem d2_54 : decode method_2_code 54 = .ok (.iload_n 0, 1) := by decide +kernel
theorem d2_55 : decode method_2_code 55 = .ok (.bipush 36, 2) := by decide +kernel
theorem d2_57 : decode method_2_code 57 = .ok (.if_icmp .eq 75, 3) := by decide +kernel
theorem d2_60 : decode method_2_code 60 = .ok (.iload_n 0, 1) := by decide +kernel
theorem d2_61 : decode method_2_code 61 = .ok (.bipush 37, 2) := by decide +kernel
theorem d2_63 : decode method_2_code 63 = .ok (.if_icmp .eq 69, 3) := by decide +kernel
theorem d2_66 : decode method_2_code 66 = .ok (.iload_n 0, 1) := by decide +kernel
theorem d2_67 : decode method_2_code 67 = .ok (.bipush 38, 2) := by decide +kernel
theorem d2_69 : decode method_2_code 69 = .ok (.if_icmp .eq 63, 3) := by decide +kernel
theorem d2_72 : decode method_2_code 72 = .ok (.iload_n 0, 1) := by decide +kernel
theorem d2_73 : decode method_2_code 73 = .ok (.bipush 39, 2) := by decide +kernel
theorem d2_75 : decode method_2_code 75 = .ok (.if_icmp .eq 57, 3) := by decide +kernel
theorem d2_78 : decode method_2_code 78 = .ok (.iload_n 0, 1) := by decide +kernel
theorem d2_79 : decode method_2_code 79 = .ok (.bipush 42, 2) := by decide +kernel
theorem d2_81 : decode method_2_code 81 = .ok (.if_icmp .eq 51, 3) := by decide +kernel
theorem d2_84 : decode method_2_code 84 = .ok (.iload_n 0, 1) := by decide +kernel
theorem d2_85 : decode method_2_code 85 = .ok (.bipush 43, 2) := by decide +kernel
theorem d2_87 : decode method_2_code 87 = .ok (.if_icmp .eq 45, 3) := by decide +kernel
theorem d2_90 : decode method_2_code 90 = .ok (.iload_n 0, 1) := by decide +kernel
theorem d2_91 : decode method_2_code 91 = .ok (.bipush 45, 2) := by decide +kernel
theorem d2_93 : decode method_2_code 93 = .ok (.if_icmp .eq 39, 3) := by decide +kernel
theorem d2_96 : decode method_2_code 96 = .ok (.iload_n 0, 1) := by decide +kernel
theorem d2_97 : decode method_2_code 97 = .ok (.bipush 46, 2) := by decide +kernel
theorem d2_99 : decode method_2_code 99 = .ok (.if_icmp .eq 33, 3) := by decide +kernel
theorem d2_102 : decode method_2_code 102 = .ok (.iload_n 0, 1) := by decide +kernel
theorem d2_103 : decode method_2_code 103 = .ok (.bipush 94, 2) := by decide +kernel
theorem d2_105 : decode method_2_code 105 = .ok (.if_icmp .eq 27, 3) := by decide +kernel
theorem d2_108 : decode method_2_code 108 = .ok (.iload_n 0, 1) := by decide +kernel
theorem d2_109 : decode method_2_code 109 = .ok (.bipush 95, 2) := by decide +kernel
theorem d2_111 : decode method_2_code 111 = .ok (.if_icmp .eq 21, 3) := by decide +kernel
theorem d2_114 : decode method_2_code 114 = .ok (.iload_n 0, 1) := by decide +kernel
theorem d2_115 : decode method_2_code 115 = .ok (.bipush 96, 2) := by decide +kernel
theorem d2_117 : decode method_2_code 117 = .ok (.if_icmp .eq 15, 3) := by decide +kernel
theorem d2_120 : decode method_2_code 120 = .ok (.iload_n 0, 1) := by decide +kernel
theorem d2_121 : decode method_2_code 121 = .ok (.bipush 124, 2) := by decide +kernel
theorem d2_123 : decode method_2_code 123 = .ok (.if_icmp .eq 9, 3) := by decide +kernel
theorem d2_126 : decode method_2_code 126 = .ok (.iload_n 0, 1) := by decide +kernel
theorem d2_127 : decode method_2_code 127 = .ok (.bipush 126, 2) := by decide +kernel
theorem d2_129 : decode method_2_code 129 = .ok (.if_icmp .ne 7, 3) := by decide +kernel
theorem d2_132 : decode method_2_code 132 = .ok (.iconst 1, 1) := by decide +kernel
theorem d2_133 : decode method_2_code 133 = .ok (.goto 4, 3) := by decide +kernel
theorem d2_136 : decode method_2_code 136 = .ok (.iconst 0, 1) := by decide +kernel
theorem d2_137 : decode method_2_code 137 = .ok (.ireturn, 1) := by decide +kernel
theorem pn_0 : plainName "io/headrace/core/HttpCharsIsTcharPinLaw" = true := by first | (simp [plainName, overriddenIn]; done) | decide +kernel
theorem ef_2 (m : MethodId) (x0 : Int32) : entryFrame m #[(.int x0)] 1 = mkF m 0 #[.val (.int x0)] [] := by first | (simp [entryFrame, mkF, argsToLocals, Value.category]; done) | rfl
def Q2 (Z : State) (p1 : Int32) (h0 : Heap) (v : Option Value) (h : Heap) (L : List Loc) : Prop := v = some (.int (own_ref p1)) ∧ L = [] ∧ h = h0
set_option maxRecDepth 65536 in
set_option maxHeartbeats 40000000 in
theorem rm2 (l : Launch) (Z : State) (a0 : Array Value) (hw : ∀ d ∈ tables_1, d.before a0 Z = true) (ws : List Jvm.Cond) (p1 : Int32) (h0 : Heap) :
    MetFree l (⟨"io/headrace/core/HttpCharsIsTcharPinLaw", "ref", "(I)Z"⟩ : MethodName) (head1 (Jvm.Cond.code (⟨"io/headrace/core/HttpCharsIsTcharPinLaw", "ref", "(I)Z"⟩ : MethodName) method_2_code 1 (some .boolean) :: ws) ({ frames := 0, cells := 0, slots := 0, locals := 0 } : Room)) (fun a U => a = #[(.int p1)] ∧ Z.Warmed39 U.vm ∧ U.heap = h0) (fun _ _ _ _ _ => True) (fun _ U o U' => ∃ v L, o = .returned v ∧ Q2 Z p1 h0 v U'.heap L ∧ FrameEnd U o U' L ({ frames := 0, cells := 0, slots := 0, locals := 0 } : Room).cells ({ frames := 0, cells := 0, slots := 0, locals := 0 } : Room).slots) := by
  refine MetFree.of_bodySF (plainFor_of_name pn_0) hisR ?_
  intro p e s m args below meth c s₁ Bd hml0 hP hK
  obtain ⟨rfl, hZ, hh⟩ := hP
  have hx := Bd.exec
  have hby := Bd.bytes
  have hml : c.maxLocals = 1 := hml0
  have hown : s.vm.findClass "io/headrace/core/HttpCharsIsTcharPinLaw" = some m.cls := findClass_of_methodNamed Bd.named
  have hnm := (name_of_methodNamed Bd.named Bd.method).1
  have X0 : Stand p l e ({ frames := 0, cells := 0, slots := 0, locals := 0 } : Room) s m #[(.int p1)] below meth c s₁ [] 0 0 := Stand.of_body Bd
  have e0 : s₁.heap = h0 := by rw [← hh, Bd.state]; rfl
  have pre0 : ∀ t, Steps p.tables e below (s₁.setTop (mkF m 0 #[.val (.int p1)] [])) t → Steps p.tables e below (s₁.setTop (entryFrame m #[(.int p1)] 1)) t := fun t k => castTop (ef_2 m p1) k
  have pre1 : ∀ t, Steps p.tables e below (s₁.setTop (mkF m 3 #[vI p1] [iI 48, iI p1])) t → Steps p.tables e below (s₁.setTop (entryFrame m #[(.int p1)] 1)) t := by
    intro t kt
    refine pre0 t ?_
    show Steps _ _ _ (s₁.setTop (mkF m 0 #[vI p1] [])) _
    refine XS.iloadN X0.here hx rfl (hb hby d2_0) rfl ?_
    show Steps _ _ _ (s₁.setTop (mkF m 1 #[vI p1] [iI p1])) _
    refine XS.bipush X0.here hx rfl (hb hby d2_1) ?_
    exact kt
  by_cases hg2 : (p1 < (48 : Int32) ∨ (57 : Int32) < p1)
  · obtain ⟨T3, X3, e3, st3⟩ : own_Mid X0 h0 (mkF m 3 #[vI p1] [iI 48, iI p1]) (mkF m 14 #[vI p1] []) := by
      by_cases hc4 : p1 < (48 : Int32)
      · refine ⟨s₁, X0, e0, fun t kt => ?_⟩
        show Steps _ _ _ (s₁.setTop (mkF m 3 #[vI p1] [iI 48, iI p1])) _
        refine XS.icmpYes X0.here hx rfl (pc0 := 3) (pc' := 14) rfl (hb hby d2_3) rfl (tlt hc4).1 (by decide) (by decide) ?_
        exact kt
      · have pre6 : ∀ t, Steps p.tables e below (s₁.setTop (mkF m 9 #[vI p1] [iI 57, iI p1])) t → Steps p.tables e below (s₁.setTop (mkF m 3 #[vI p1] [iI 48, iI p1])) t := by
          intro t kt
          show Steps _ _ _ (s₁.setTop (mkF m 3 #[vI p1] [iI 48, iI p1])) _
          refine XS.icmpNo X0.here hx rfl (hb hby d2_3) rfl (flt hc4).1 ?_
          show Steps _ _ _ (s₁.setTop (mkF m 6 #[vI p1] [])) _
          refine XS.iloadN X0.here hx rfl (hb hby d2_6) rfl ?_
          show Steps _ _ _ (s₁.setTop (mkF m 7 #[vI p1] [iI p1])) _
          refine XS.bipush X0.here hx rfl (hb hby d2_7) ?_
          exact kt
        by_cases hc5 : (57 : Int32) < p1
        · refine ⟨s₁, X0, e0, fun t kt => ?_⟩
          refine pre6 t ?_
          show Steps _ _ _ (s₁.setTop (mkF m 9 #[vI p1] [iI 57, iI p1])) _
          refine XS.icmpYes X0.here hx rfl (pc0 := 9) (pc' := 14) rfl (hb hby d2_9) rfl (tlt hc5).2.2.1 (by decide) (by decide) ?_
          exact kt
        · exact absurd hg2 (by simp only [hc4, hc5, or_false, or_true, true_or, false_or, and_true, true_and, false_and, and_false, not_true_eq_false, not_false_eq_true])
    have pre7 : ∀ t, Steps p.tables e below (T3.setTop (mkF m 17 #[vI p1] [iI 97, iI p1])) t → Steps p.tables e below (s₁.setTop (entryFrame m #[(.int p1)] 1)) t := by
      intro t kt
      refine pre1 t ?_
      show Steps _ _ _ (s₁.setTop (mkF m 3 #[vI p1] [iI 48, iI p1])) _
      refine st3 _ ?_
      show Steps _ _ _ (T3.setTop (mkF m 14 #[vI p1] [])) _
      refine XS.iloadN X3.here hx rfl (hb hby d2_14) rfl ?_
      show Steps _ _ _ (T3.setTop (mkF m 15 #[vI p1] [iI p1])) _
      refine XS.bipush X3.here hx rfl (hb hby d2_15) ?_
      exact kt
    by_cases hg8 : (p1 < (97 : Int32) ∨ (122 : Int32) < p1)
    · obtain ⟨T9, X9, e9, st9⟩ : own_Mid X3 h0 (mkF m 17 #[vI p1] [iI 97, iI p1]) (mkF m 28 #[vI p1] []) := by
        by_cases hc10 : p1 < (97 : Int32)
        · refine ⟨T3, X3, e3, fun t kt => ?_⟩
          show Steps _ _ _ (T3.setTop (mkF m 17 #[vI p1] [iI 97, iI p1])) _
          refine XS.icmpYes X3.here hx rfl (pc0 := 17) (pc' := 28) rfl (hb hby d2_17) rfl (tlt hc10).1 (by decide) (by decide) ?_
          exact kt
        · have pre12 : ∀ t, Steps p.tables e below (T3.setTop (mkF m 23 #[vI p1] [iI 122, iI p1])) t → Steps p.tables e below (T3.setTop (mkF m 17 #[vI p1] [iI 97, iI p1])) t := by
            intro t kt
            show Steps _ _ _ (T3.setTop (mkF m 17 #[vI p1] [iI 97, iI p1])) _
            refine XS.icmpNo X3.here hx rfl (hb hby d2_17) rfl (flt hc10).1 ?_
            show Steps _ _ _ (T3.setTop (mkF m 20 #[vI p1] [])) _
            refine XS.iloadN X3.here hx rfl (hb hby d2_20) rfl ?_
            show Steps _ _ _ (T3.setTop (mkF m 21 #[vI p1] [iI p1])) _
            refine XS.bipush X3.here hx rfl (hb hby d2_21) ?_
            exact kt
          by_cases hc11 : (122 : Int32) < p1
          · refine ⟨T3, X3, e3, fun t kt => ?_⟩
            refine pre12 t ?_
            show Steps _ _ _ (T3.setTop (mkF m 23 #[vI p1] [iI 122, iI p1])) _
            refine XS.icmpYes X3.here hx rfl (pc0 := 23) (pc' := 28) rfl (hb hby d2_23) rfl (tlt hc11).2.2.1 (by decide) (by decide) ?_
            exact kt
          · exact absurd hg8 (by simp only [hc10, hc11, or_false, or_true, true_or, false_or, and_true, true_and, false_and, and_false, not_true_eq_false, not_false_eq_true])
      have pre13 : ∀ t, Steps p.tables e below (T9.setTop (mkF m 31 #[vI p1] [iI 65, iI p1])) t → Steps p.tables e below (s₁.setTop (entryFrame m #[(.int p1)] 1)) t := by
        intro t kt
        refine pre7 t ?_
        show Steps _ _ _ (T3.setTop (mkF m 17 #[vI p1] [iI 97, iI p1])) _
        refine st9 _ ?_
        show Steps _ _ _ (T9.setTop (mkF m 28 #[vI p1] [])) _
        refine XS.iloadN X9.here hx rfl (hb hby d2_28) rfl ?_
        show Steps _ _ _ (T9.setTop (mkF m 29 #[vI p1] [iI p1])) _
        refine XS.bipush X9.here hx rfl (hb hby d2_29) ?_
        exact kt
      by_cases hg14 : (p1 < (65 : Int32) ∨ (90 : Int32) < p1)
      · obtain ⟨T15, X15, e15, st15⟩ : own_Mid X9 h0 (mkF m 31 #[vI p1] [iI 65, iI p1]) (mkF m 42 #[vI p1] []) := by
          by_cases hc16 : p1 < (65 : Int32)
          · refine ⟨T9, X9, e9, fun t kt => ?_⟩
            show Steps _ _ _ (T9.setTop (mkF m 31 #[vI p1] [iI 65, iI p1])) _
            refine XS.icmpYes X9.here hx rfl (pc0 := 31) (pc' := 42) rfl (hb hby d2_31) rfl (tlt hc16).1 (by decide) (by decide) ?_
            exact kt
          · have pre18 : ∀ t, Steps p.tables e below (T9.setTop (mkF m 37 #[vI p1] [iI 90, iI p1])) t → Steps p.tables e below (T9.setTop (mkF m 31 #[vI p1] [iI 65, iI p1])) t := by
              intro t kt
              show Steps _ _ _ (T9.setTop (mkF m 31 #[vI p1] [iI 65, iI p1])) _
              refine XS.icmpNo X9.here hx rfl (hb hby d2_31) rfl (flt hc16).1 ?_
              show Steps _ _ _ (T9.setTop (mkF m 34 #[vI p1] [])) _
              refine XS.iloadN X9.here hx rfl (hb hby d2_34) rfl ?_
              show Steps _ _ _ (T9.setTop (mkF m 35 #[vI p1] [iI p1])) _
              refine XS.bipush X9.here hx rfl (hb hby d2_35) ?_
              exact kt
            by_cases hc17 : (90 : Int32) < p1
            · refine ⟨T9, X9, e9, fun t kt => ?_⟩
              refine pre18 t ?_
              show Steps _ _ _ (T9.setTop (mkF m 37 #[vI p1] [iI 90, iI p1])) _
              refine XS.icmpYes X9.here hx rfl (pc0 := 37) (pc' := 42) rfl (hb hby d2_37) rfl (tlt hc17).2.2.1 (by decide) (by decide) ?_
              exact kt
            · exact absurd hg14 (by simp only [hc16, hc17, or_false, or_true, true_or, false_or, and_true, true_and, false_and, and_false, not_true_eq_false, not_false_eq_true])
        obtain ⟨v19, hv19⟩ : ∃ z : Int32, z = (if p1 = (33 : Int32) then (1 : Int32) else (if p1 = (35 : Int32) then (1 : Int32) else (if p1 = (36 : Int32) then (1 : Int32) else (if p1 = (37 : Int32) then (1 : Int32) else (if p1 = (38 : Int32) then (1 : Int32) else (if p1 = (39 : Int32) then (1 : Int32) else (if p1 = (42 : Int32) then (1 : Int32) else (if p1 = (43 : Int32) then (1 : Int32) else (if p1 = (45 : Int32) then (1 : Int32) else (if p1 = (46 : Int32) then (1 : Int32) else (if p1 = (94 : Int32) then (1 : Int32) else (if p1 = (95 : Int32) then (1 : Int32) else (if p1 = (96 : Int32) then (1 : Int32) else (if p1 = (124 : Int32) then (1 : Int32) else (if p1 = (126 : Int32) then (1 : Int32) else (0 : Int32)))))))))))))))) := ⟨_, rfl⟩
        obtain ⟨T20, X20, e20, st20⟩ : own_Mid X15 h0 (mkF m 45 #[vI p1] [iI 33, iI p1]) (mkF m 137 #[vI p1] [iI v19]) := by
          by_cases hc21 : p1 = (33 : Int32)
          · refine ⟨T15, X15, e15, fun t kt => ?_⟩
            subst hv19
            simp only [if_pos hc21] at kt
            show Steps _ _ _ (T15.setTop (mkF m 45 #[vI p1] [iI 33, iI p1])) _
            refine XS.icmpYes X15.here hx rfl (pc0 := 45) (pc' := 132) rfl (hb hby d2_45) rfl (teq hc21).1 (by decide) (by decide) ?_
            show Steps _ _ _ (T15.setTop (mkF m 132 #[vI p1] [])) _
            refine XS.iconst X15.here hx rfl (hb hby d2_132) ?_
            show Steps _ _ _ (T15.setTop (mkF m 133 #[vI p1] [iI 1])) _
            refine XS.goto X15.here hx rfl (pc0 := 133) (pc' := 137) rfl (hb hby d2_133) (by decide) (by decide) ?_
            exact kt
          · have pre23 : ∀ t, Steps p.tables e below (T15.setTop (mkF m 51 #[vI p1] [iI 35, iI p1])) t → Steps p.tables e below (T15.setTop (mkF m 45 #[vI p1] [iI 33, iI p1])) t := by
              intro t kt
              show Steps _ _ _ (T15.setTop (mkF m 45 #[vI p1] [iI 33, iI p1])) _
              refine XS.icmpNo X15.here hx rfl (hb hby d2_45) rfl (feq hc21).1 ?_
              show Steps _ _ _ (T15.setTop (mkF m 48 #[vI p1] [])) _
              refine XS.iloadN X15.here hx rfl (hb hby d2_48) rfl ?_
              show Steps _ _ _ (T15.setTop (mkF m 49 #[vI p1] [iI p1])) _
              refine XS.bipush X15.here hx rfl (hb hby d2_49) ?_
              exact kt
            by_cases hc22 : p1 = (35 : Int32)
            · refine ⟨T15, X15, e15, fun t kt => ?_⟩
              subst hv19
              simp only [if_neg hc21, if_pos hc22] at kt
              refine pre23 t ?_
              show Steps _ _ _ (T15.setTop (mkF m 51 #[vI p1] [iI 35, iI p1])) _
              refine XS.icmpYes X15.here hx rfl (pc0 := 51) (pc' := 132) rfl (hb hby d2_51) rfl (teq hc22).1 (by decide) (by decide) ?_
              show Steps _ _ _ (T15.setTop (mkF m 132 #[vI p1] [])) _
              refine XS.iconst X15.here hx rfl (hb hby d2_132) ?_
              show Steps _ _ _ (T15.setTop (mkF m 133 #[vI p1] [iI 1])) _
              refine XS.goto X15.here hx rfl (pc0 := 133) (pc' := 137) rfl (hb hby d2_133) (by decide) (by decide) ?_
              exact kt
            · have pre25 : ∀ t, Steps p.tables e below (T15.setTop (mkF m 57 #[vI p1] [iI 36, iI p1])) t → Steps p.tables e below (T15.setTop (mkF m 45 #[vI p1] [iI 33, iI p1])) t := by
                intro t kt
                refine pre23 t ?_
                show Steps _ _ _ (T15.setTop (mkF m 51 #[vI p1] [iI 35, iI p1])) _
                refine XS.icmpNo X15.here hx rfl (hb hby d2_51) rfl (feq hc22).1 ?_
                show Steps _ _ _ (T15.setTop (mkF m 54 #[vI p1] [])) _
                refine XS.iloadN X15.here hx rfl (hb hby d2_54) rfl ?_
                show Steps _ _ _ (T15.setTop (mkF m 55 #[vI p1] [iI p1])) _
                refine XS.bipush X15.here hx rfl (hb hby d2_55) ?_
                exact kt
              by_cases hc24 : p1 = (36 : Int32)
              · refine ⟨T15, X15, e15, fun t kt => ?_⟩
                subst hv19
                simp only [if_neg hc21, if_neg hc22, if_pos hc24] at kt
                refine pre25 t ?_
                show Steps _ _ _ (T15.setTop (mkF m 57 #[vI p1] [iI 36, iI p1])) _
                refine XS.icmpYes X15.here hx rfl (pc0 := 57) (pc' := 132) rfl (hb hby d2_57) rfl (teq hc24).1 (by decide) (by decide) ?_
                show Steps _ _ _ (T15.setTop (mkF m 132 #[vI p1] [])) _
                refine XS.iconst X15.here hx rfl (hb hby d2_132) ?_
                show Steps _ _ _ (T15.setTop (mkF m 133 #[vI p1] [iI 1])) _
                refine XS.goto X15.here hx rfl (pc0 := 133) (pc' := 137) rfl (hb hby d2_133) (by decide) (by decide) ?_
                exact kt
              · have pre27 : ∀ t, Steps p.tables e below (T15.setTop (mkF m 63 #[vI p1] [iI 37, iI p1])) t → Steps p.tables e below (T15.setTop (mkF m 45 #[vI p1] [iI 33, iI p1])) t := by
                  intro t kt
                  refine pre25 t ?_
                  show Steps _ _ _ (T15.setTop (mkF m 57 #[vI p1] [iI 36, iI p1])) _
                  refine XS.icmpNo X15.here hx rfl (hb hby d2_57) rfl (feq hc24).1 ?_
                  show Steps _ _ _ (T15.setTop (mkF m 60 #[vI p1] [])) _
                  refine XS.iloadN X15.here hx rfl (hb hby d2_60) rfl ?_
                  show Steps _ _ _ (T15.setTop (mkF m 61 #[vI p1] [iI p1])) _
                  refine XS.bipush X15.here hx rfl (hb hby d2_61) ?_
                  exact kt
                by_cases hc26 : p1 = (37 : Int32)
                · refine ⟨T15, X15, e15, fun t kt => ?_⟩
                  subst hv19
                  simp only [if_neg hc21, if_neg hc22, if_neg hc24, if_pos hc26] at kt
                  refine pre27 t ?_
                  show Steps _ _ _ (T15.setTop (mkF m 63 #[vI p1] [iI 37, iI p1])) _
                  refine XS.icmpYes X15.here hx rfl (pc0 := 63) (pc' := 132) rfl (hb hby d2_63) rfl (teq hc26).1 (by decide) (by decide) ?_
                  show Steps _ _ _ (T15.setTop (mkF m 132 #[vI p1] [])) _
                  refine XS.iconst X15.here hx rfl (hb hby d2_132) ?_
                  show Steps _ _ _ (T15.setTop (mkF m 133 #[vI p1] [iI 1])) _
                  refine XS.goto X15.here hx rfl (pc0 := 133) (pc' := 137) rfl (hb hby d2_133) (by decide) (by decide) ?_
                  exact kt
                · have pre29 : ∀ t, Steps p.tables e below (T15.setTop (mkF m 69 #[vI p1] [iI 38, iI p1])) t → Steps p.tables e below (T15.setTop (mkF m 45 #[vI p1] [iI 33, iI p1])) t := by
                    intro t kt
                    refine pre27 t ?_
                    show Steps _ _ _ (T15.setTop (mkF m 63 #[vI p1] [iI 37, iI p1])) _
                    refine XS.icmpNo X15.here hx rfl (hb hby d2_63) rfl (feq hc26).1 ?_
                    show Steps _ _ _ (T15.setTop (mkF m 66 #[vI p1] [])) _
                    refine XS.iloadN X15.here hx rfl (hb hby d2_66) rfl ?_
                    show Steps _ _ _ (T15.setTop (mkF m 67 #[vI p1] [iI p1])) _
                    refine XS.bipush X15.here hx rfl (hb hby d2_67) ?_
                    exact kt
                  by_cases hc28 : p1 = (38 : Int32)
                  · refine ⟨T15, X15, e15, fun t kt => ?_⟩
                    subst hv19
                    simp only [if_neg hc21, if_neg hc22, if_neg hc24, if_neg hc26, if_pos hc28] at kt
                    refine pre29 t ?_
                    show Steps _ _ _ (T15.setTop (mkF m 69 #[vI p1] [iI 38, iI p1])) _
                    refine XS.icmpYes X15.here hx rfl (pc0 := 69) (pc' := 132) rfl (hb hby d2_69) rfl (teq hc28).1 (by decide) (by decide) ?_
                    show Steps _ _ _ (T15.setTop (mkF m 132 #[vI p1] [])) _
                    refine XS.iconst X15.here hx rfl (hb hby d2_132) ?_
                    show Steps _ _ _ (T15.setTop (mkF m 133 #[vI p1] [iI 1])) _
                    refine XS.goto X15.here hx rfl (pc0 := 133) (pc' := 137) rfl (hb hby d2_133) (by decide) (by decide) ?_
                    exact kt
                  · have pre31 : ∀ t, Steps p.tables e below (T15.setTop (mkF m 75 #[vI p1] [iI 39, iI p1])) t → Steps p.tables e below (T15.setTop (mkF m 45 #[vI p1] [iI 33, iI p1])) t := by
                      intro t kt
                      refine pre29 t ?_
                      show Steps _ _ _ (T15.setTop (mkF m 69 #[vI p1] [iI 38, iI p1])) _
                      refine XS.icmpNo X15.here hx rfl (hb hby d2_69) rfl (feq hc28).1 ?_
                      show Steps _ _ _ (T15.setTop (mkF m 72 #[vI p1] [])) _
                      refine XS.iloadN X15.here hx rfl (hb hby d2_72) rfl ?_
                      show Steps _ _ _ (T15.setTop (mkF m 73 #[vI p1] [iI p1])) _
                      refine XS.bipush X15.here hx rfl (hb hby d2_73) ?_
                      exact kt
                    by_cases hc30 : p1 = (39 : Int32)
                    · refine ⟨T15, X15, e15, fun t kt => ?_⟩
                      subst hv19
                      simp only [if_neg hc21, if_neg hc22, if_neg hc24, if_neg hc26, if_neg hc28, if_pos hc30] at kt
                      refine pre31 t ?_
                      show Steps _ _ _ (T15.setTop (mkF m 75 #[vI p1] [iI 39, iI p1])) _
                      refine XS.icmpYes X15.here hx rfl (pc0 := 75) (pc' := 132) rfl (hb hby d2_75) rfl (teq hc30).1 (by decide) (by decide) ?_
                      show Steps _ _ _ (T15.setTop (mkF m 132 #[vI p1] [])) _
                      refine XS.iconst X15.here hx rfl (hb hby d2_132) ?_
                      show Steps _ _ _ (T15.setTop (mkF m 133 #[vI p1] [iI 1])) _
                      refine XS.goto X15.here hx rfl (pc0 := 133) (pc' := 137) rfl (hb hby d2_133) (by decide) (by decide) ?_
                      exact kt
                    · have pre33 : ∀ t, Steps p.tables e below (T15.setTop (mkF m 81 #[vI p1] [iI 42, iI p1])) t → Steps p.tables e below (T15.setTop (mkF m 45 #[vI p1] [iI 33, iI p1])) t := by
                        intro t kt
                        refine pre31 t ?_
                        show Steps _ _ _ (T15.setTop (mkF m 75 #[vI p1] [iI 39, iI p1])) _
                        refine XS.icmpNo X15.here hx rfl (hb hby d2_75) rfl (feq hc30).1 ?_
                        show Steps _ _ _ (T15.setTop (mkF m 78 #[vI p1] [])) _
                        refine XS.iloadN X15.here hx rfl (hb hby d2_78) rfl ?_
                        show Steps _ _ _ (T15.setTop (mkF m 79 #[vI p1] [iI p1])) _
                        refine XS.bipush X15.here hx rfl (hb hby d2_79) ?_
                        exact kt
                      by_cases hc32 : p1 = (42 : Int32)
                      · refine ⟨T15, X15, e15, fun t kt => ?_⟩
                        subst hv19
                        simp only [if_neg hc21, if_neg hc22, if_neg hc24, if_neg hc26, if_neg hc28, if_neg hc30, if_pos hc32] at kt
                        refine pre33 t ?_
                        show Steps _ _ _ (T15.setTop (mkF m 81 #[vI p1] [iI 42, iI p1])) _
                        refine XS.icmpYes X15.here hx rfl (pc0 := 81) (pc' := 132) rfl (hb hby d2_81) rfl (teq hc32).1 (by decide) (by decide) ?_
                        show Steps _ _ _ (T15.setTop (mkF m 132 #[vI p1] [])) _
                        refine XS.iconst X15.here hx rfl (hb hby d2_132) ?_
                        show Steps _ _ _ (T15.setTop (mkF m 133 #[vI p1] [iI 1])) _
                        refine XS.goto X15.here hx rfl (pc0 := 133) (pc' := 137) rfl (hb hby d2_133) (by decide) (by decide) ?_
                        exact kt
                      · have pre35 : ∀ t, Steps p.tables e below (T15.setTop (mkF m 87 #[vI p1] [iI 43, iI p1])) t → Steps p.tables e below (T15.setTop (mkF m 45 #[vI p1] [iI 33, iI p1])) t := by
                          intro t kt
                          refine pre33 t ?_
                          show Steps _ _ _ (T15.setTop (mkF m 81 #[vI p1] [iI 42, iI p1])) _
                          refine XS.icmpNo X15.here hx rfl (hb hby d2_81) rfl (feq hc32).1 ?_
                          show Steps _ _ _ (T15.setTop (mkF m 84 #[vI p1] [])) _
                          refine XS.iloadN X15.here hx rfl (hb hby d2_84) rfl ?_
                          show Steps _ _ _ (T15.setTop (mkF m 85 #[vI p1] [iI p1])) _
                          refine XS.bipush X15.here hx rfl (hb hby d2_85) ?_
                          exact kt
                        by_cases hc34 : p1 = (43 : Int32)
                        · refine ⟨T15, X15, e15, fun t kt => ?_⟩
                          subst hv19
                          simp only [if_neg hc21, if_neg hc22, if_neg hc24, if_neg hc26, if_neg hc28, if_neg hc30, if_neg hc32, if_pos hc34] at kt
                          refine pre35 t ?_
                          show Steps _ _ _ (T15.setTop (mkF m 87 #[vI p1] [iI 43, iI p1])) _
                          refine XS.icmpYes X15.here hx rfl (pc0 := 87) (pc' := 132) rfl (hb hby d2_87) rfl (teq hc34).1 (by decide) (by decide) ?_
                          show Steps _ _ _ (T15.setTop (mkF m 132 #[vI p1] [])) _
                          refine XS.iconst X15.here hx rfl (hb hby d2_132) ?_
                          show Steps _ _ _ (T15.setTop (mkF m 133 #[vI p1] [iI 1])) _
                          refine XS.goto X15.here hx rfl (pc0 := 133) (pc' := 137) rfl (hb hby d2_133) (by decide) (by decide) ?_
                          exact kt
                        · have pre37 : ∀ t, Steps p.tables e below (T15.setTop (mkF m 93 #[vI p1] [iI 45, iI p1])) t → Steps p.tables e below (T15.setTop (mkF m 45 #[vI p1] [iI 33, iI p1])) t := by
                            intro t kt
                            refine pre35 t ?_
                            show Steps _ _ _ (T15.setTop (mkF m 87 #[vI p1] [iI 43, iI p1])) _
                            refine XS.icmpNo X15.here hx rfl (hb hby d2_87) rfl (feq hc34).1 ?_
                            show Steps _ _ _ (T15.setTop (mkF m 90 #[vI p1] [])) _
                            refine XS.iloadN X15.here hx rfl (hb hby d2_90) rfl ?_
                            show Steps _ _ _ (T15.setTop (mkF m 91 #[vI p1] [iI p1])) _
                            refine XS.bipush X15.here hx rfl (hb hby d2_91) ?_
                            exact kt
                          by_cases hc36 : p1 = (45 : Int32)
                          · refine ⟨T15, X15, e15, fun t kt => ?_⟩
                            subst hv19
                            simp only [if_neg hc21, if_neg hc22, if_neg hc24, if_neg hc26, if_neg hc28, if_neg hc30, if_neg hc32, if_neg hc34, if_pos hc36] at kt
                            refine pre37 t ?_
                            show Steps _ _ _ (T15.setTop (mkF m 93 #[vI p1] [iI 45, iI p1])) _
                            refine XS.icmpYes X15.here hx rfl (pc0 := 93) (pc' := 132) rfl (hb hby d2_93) rfl (teq hc36).1 (by decide) (by decide) ?_
                            show Steps _ _ _ (T15.setTop (mkF m 132 #[vI p1] [])) _
                            refine XS.iconst X15.here hx rfl (hb hby d2_132) ?_
                            show Steps _ _ _ (T15.setTop (mkF m 133 #[vI p1] [iI 1])) _
                            refine XS.goto X15.here hx rfl (pc0 := 133) (pc' := 137) rfl (hb hby d2_133) (by decide) (by decide) ?_
                            exact kt
                          · have pre39 : ∀ t, Steps p.tables e below (T15.setTop (mkF m 99 #[vI p1] [iI 46, iI p1])) t → Steps p.tables e below (T15.setTop (mkF m 45 #[vI p1] [iI 33, iI p1])) t := by
                              intro t kt
                              refine pre37 t ?_
                              show Steps _ _ _ (T15.setTop (mkF m 93 #[vI p1] [iI 45, iI p1])) _
                              refine XS.icmpNo X15.here hx rfl (hb hby d2_93) rfl (feq hc36).1 ?_
                              show Steps _ _ _ (T15.setTop (mkF m 96 #[vI p1] [])) _
                              refine XS.iloadN X15.here hx rfl (hb hby d2_96) rfl ?_
                              show Steps _ _ _ (T15.setTop (mkF m 97 #[vI p1] [iI p1])) _
                              refine XS.bipush X15.here hx rfl (hb hby d2_97) ?_
                              exact kt
                            by_cases hc38 : p1 = (46 : Int32)
                            · refine ⟨T15, X15, e15, fun t kt => ?_⟩
                              subst hv19
                              simp only [if_neg hc21, if_neg hc22, if_neg hc24, if_neg hc26, if_neg hc28, if_neg hc30, if_neg hc32, if_neg hc34, if_neg hc36, if_pos hc38] at kt
                              refine pre39 t ?_
                              show Steps _ _ _ (T15.setTop (mkF m 99 #[vI p1] [iI 46, iI p1])) _
                              refine XS.icmpYes X15.here hx rfl (pc0 := 99) (pc' := 132) rfl (hb hby d2_99) rfl (teq hc38).1 (by decide) (by decide) ?_
                              show Steps _ _ _ (T15.setTop (mkF m 132 #[vI p1] [])) _
                              refine XS.iconst X15.here hx rfl (hb hby d2_132) ?_
                              show Steps _ _ _ (T15.setTop (mkF m 133 #[vI p1] [iI 1])) _
                              refine XS.goto X15.here hx rfl (pc0 := 133) (pc' := 137) rfl (hb hby d2_133) (by decide) (by decide) ?_
                              exact kt
                            · have pre41 : ∀ t, Steps p.tables e below (T15.setTop (mkF m 105 #[vI p1] [iI 94, iI p1])) t → Steps p.tables e below (T15.setTop (mkF m 45 #[vI p1] [iI 33, iI p1])) t := by
                                intro t kt
                                refine pre39 t ?_
                                show Steps _ _ _ (T15.setTop (mkF m 99 #[vI p1] [iI 46, iI p1])) _
                                refine XS.icmpNo X15.here hx rfl (hb hby d2_99) rfl (feq hc38).1 ?_
                                show Steps _ _ _ (T15.setTop (mkF m 102 #[vI p1] [])) _
                                refine XS.iloadN X15.here hx rfl (hb hby d2_102) rfl ?_
                                show Steps _ _ _ (T15.setTop (mkF m 103 #[vI p1] [iI p1])) _
                                refine XS.bipush X15.here hx rfl (hb hby d2_103) ?_
                                exact kt
                              by_cases hc40 : p1 = (94 : Int32)
                              · refine ⟨T15, X15, e15, fun t kt => ?_⟩
                                subst hv19
                                simp only [if_neg hc21, if_neg hc22, if_neg hc24, if_neg hc26, if_neg hc28, if_neg hc30, if_neg hc32, if_neg hc34, if_neg hc36, if_neg hc38, if_pos hc40] at kt
                                refine pre41 t ?_
                                show Steps _ _ _ (T15.setTop (mkF m 105 #[vI p1] [iI 94, iI p1])) _
                                refine XS.icmpYes X15.here hx rfl (pc0 := 105) (pc' := 132) rfl (hb hby d2_105) rfl (teq hc40).1 (by decide) (by decide) ?_
                                show Steps _ _ _ (T15.setTop (mkF m 132 #[vI p1] [])) _
                                refine XS.iconst X15.here hx rfl (hb hby d2_132) ?_
                                show Steps _ _ _ (T15.setTop (mkF m 133 #[vI p1] [iI 1])) _
                                refine XS.goto X15.here hx rfl (pc0 := 133) (pc' := 137) rfl (hb hby d2_133) (by decide) (by decide) ?_
                                exact kt
                              · have pre43 : ∀ t, Steps p.tables e below (T15.setTop (mkF m 111 #[vI p1] [iI 95, iI p1])) t → Steps p.tables e below (T15.setTop (mkF m 45 #[vI p1] [iI 33, iI p1])) t := by
                                  intro t kt
                                  refine pre41 t ?_
                                  show Steps _ _ _ (T15.setTop (mkF m 105 #[vI p1] [iI 94, iI p1])) _
                                  refine XS.icmpNo X15.here hx rfl (hb hby d2_105) rfl (feq hc40).1 ?_
                                  show Steps _ _ _ (T15.setTop (mkF m 108 #[vI p1] [])) _
                                  refine XS.iloadN X15.here hx rfl (hb hby d2_108) rfl ?_
                                  show Steps _ _ _ (T15.setTop (mkF m 109 #[vI p1] [iI p1])) _
                                  refine XS.bipush X15.here hx rfl (hb hby d2_109) ?_
                                  exact kt
                                by_cases hc42 : p1 = (95 : Int32)
                                · refine ⟨T15, X15, e15, fun t kt => ?_⟩
                                  subst hv19
                                  simp only [if_neg hc21, if_neg hc22, if_neg hc24, if_neg hc26, if_neg hc28, if_neg hc30, if_neg hc32, if_neg hc34, if_neg hc36, if_neg hc38, if_neg hc40, if_pos hc42] at kt
                                  refine pre43 t ?_
                                  show Steps _ _ _ (T15.setTop (mkF m 111 #[vI p1] [iI 95, iI p1])) _
                                  refine XS.icmpYes X15.here hx rfl (pc0 := 111) (pc' := 132) rfl (hb hby d2_111) rfl (teq hc42).1 (by decide) (by decide) ?_
                                  show Steps _ _ _ (T15.setTop (mkF m 132 #[vI p1] [])) _
                                  refine XS.iconst X15.here hx rfl (hb hby d2_132) ?_
                                  show Steps _ _ _ (T15.setTop (mkF m 133 #[vI p1] [iI 1])) _
                                  refine XS.goto X15.here hx rfl (pc0 := 133) (pc' := 137) rfl (hb hby d2_133) (by decide) (by decide) ?_
                                  exact kt
                                · have pre45 : ∀ t, Steps p.tables e below (T15.setTop (mkF m 117 #[vI p1] [iI 96, iI p1])) t → Steps p.tables e below (T15.setTop (mkF m 45 #[vI p1] [iI 33, iI p1])) t := by
                                    intro t kt
                                    refine pre43 t ?_
                                    show Steps _ _ _ (T15.setTop (mkF m 111 #[vI p1] [iI 95, iI p1])) _
                                    refine XS.icmpNo X15.here hx rfl (hb hby d2_111) rfl (feq hc42).1 ?_
                                    show Steps _ _ _ (T15.setTop (mkF m 114 #[vI p1] [])) _
                                    refine XS.iloadN X15.here hx rfl (hb hby d2_114) rfl ?_
                                    show Steps _ _ _ (T15.setTop (mkF m 115 #[vI p1] [iI p1])) _
                                    refine XS.bipush X15.here hx rfl (hb hby d2_115) ?_
                                    exact kt
                                  by_cases hc44 : p1 = (96 : Int32)
                                  · refine ⟨T15, X15, e15, fun t kt => ?_⟩
                                    subst hv19
                                    simp only [if_neg hc21, if_neg hc22, if_neg hc24, if_neg hc26, if_neg hc28, if_neg hc30, if_neg hc32, if_neg hc34, if_neg hc36, if_neg hc38, if_neg hc40, if_neg hc42, if_pos hc44] at kt
                                    refine pre45 t ?_
                                    show Steps _ _ _ (T15.setTop (mkF m 117 #[vI p1] [iI 96, iI p1])) _
                                    refine XS.icmpYes X15.here hx rfl (pc0 := 117) (pc' := 132) rfl (hb hby d2_117) rfl (teq hc44).1 (by decide) (by decide) ?_
                                    show Steps _ _ _ (T15.setTop (mkF m 132 #[vI p1] [])) _
                                    refine XS.iconst X15.here hx rfl (hb hby d2_132) ?_
                                    show Steps _ _ _ (T15.setTop (mkF m 133 #[vI p1] [iI 1])) _
                                    refine XS.goto X15.here hx rfl (pc0 := 133) (pc' := 137) rfl (hb hby d2_133) (by decide) (by decide) ?_
                                    exact kt
                                  · have pre47 : ∀ t, Steps p.tables e below (T15.setTop (mkF m 123 #[vI p1] [iI 124, iI p1])) t → Steps p.tables e below (T15.setTop (mkF m 45 #[vI p1] [iI 33, iI p1])) t := by
                                      intro t kt
                                      refine pre45 t ?_
                                      show Steps _ _ _ (T15.setTop (mkF m 117 #[vI p1] [iI 96, iI p1])) _
                                      refine XS.icmpNo X15.here hx rfl (hb hby d2_117) rfl (feq hc44).1 ?_
                                      show Steps _ _ _ (T15.setTop (mkF m 120 #[vI p1] [])) _
                                      refine XS.iloadN X15.here hx rfl (hb hby d2_120) rfl ?_
                                      show Steps _ _ _ (T15.setTop (mkF m 121 #[vI p1] [iI p1])) _
                                      refine XS.bipush X15.here hx rfl (hb hby d2_121) ?_
                                      exact kt
                                    by_cases hc46 : p1 = (124 : Int32)
                                    · refine ⟨T15, X15, e15, fun t kt => ?_⟩
                                      subst hv19
                                      simp only [if_neg hc21, if_neg hc22, if_neg hc24, if_neg hc26, if_neg hc28, if_neg hc30, if_neg hc32, if_neg hc34, if_neg hc36, if_neg hc38, if_neg hc40, if_neg hc42, if_neg hc44, if_pos hc46] at kt
                                      refine pre47 t ?_
                                      show Steps _ _ _ (T15.setTop (mkF m 123 #[vI p1] [iI 124, iI p1])) _
                                      refine XS.icmpYes X15.here hx rfl (pc0 := 123) (pc' := 132) rfl (hb hby d2_123) rfl (teq hc46).1 (by decide) (by decide) ?_
                                      show Steps _ _ _ (T15.setTop (mkF m 132 #[vI p1] [])) _
                                      refine XS.iconst X15.here hx rfl (hb hby d2_132) ?_
                                      show Steps _ _ _ (T15.setTop (mkF m 133 #[vI p1] [iI 1])) _
                                      refine XS.goto X15.here hx rfl (pc0 := 133) (pc' := 137) rfl (hb hby d2_133) (by decide) (by decide) ?_
                                      exact kt
                                    · have pre49 : ∀ t, Steps p.tables e below (T15.setTop (mkF m 129 #[vI p1] [iI 126, iI p1])) t → Steps p.tables e below (T15.setTop (mkF m 45 #[vI p1] [iI 33, iI p1])) t := by
                                        intro t kt
                                        refine pre47 t ?_
                                        show Steps _ _ _ (T15.setTop (mkF m 123 #[vI p1] [iI 124, iI p1])) _
                                        refine XS.icmpNo X15.here hx rfl (hb hby d2_123) rfl (feq hc46).1 ?_
                                        show Steps _ _ _ (T15.setTop (mkF m 126 #[vI p1] [])) _
                                        refine XS.iloadN X15.here hx rfl (hb hby d2_126) rfl ?_
                                        show Steps _ _ _ (T15.setTop (mkF m 127 #[vI p1] [iI p1])) _
                                        refine XS.bipush X15.here hx rfl (hb hby d2_127) ?_
                                        exact kt
                                      by_cases hc48 : p1 = (126 : Int32)
                                      · refine ⟨T15, X15, e15, fun t kt => ?_⟩
                                        subst hv19
                                        simp only [if_neg hc21, if_neg hc22, if_neg hc24, if_neg hc26, if_neg hc28, if_neg hc30, if_neg hc32, if_neg hc34, if_neg hc36, if_neg hc38, if_neg hc40, if_neg hc42, if_neg hc44, if_neg hc46, if_pos hc48] at kt
                                        refine pre49 t ?_
                                        show Steps _ _ _ (T15.setTop (mkF m 129 #[vI p1] [iI 126, iI p1])) _
                                        refine XS.icmpNo X15.here hx rfl (hb hby d2_129) rfl (teq hc48).2 ?_
                                        show Steps _ _ _ (T15.setTop (mkF m 132 #[vI p1] [])) _
                                        refine XS.iconst X15.here hx rfl (hb hby d2_132) ?_
                                        show Steps _ _ _ (T15.setTop (mkF m 133 #[vI p1] [iI 1])) _
                                        refine XS.goto X15.here hx rfl (pc0 := 133) (pc' := 137) rfl (hb hby d2_133) (by decide) (by decide) ?_
                                        exact kt
                                      · refine ⟨T15, X15, e15, fun t kt => ?_⟩
                                        subst hv19
                                        simp only [if_neg hc21, if_neg hc22, if_neg hc24, if_neg hc26, if_neg hc28, if_neg hc30, if_neg hc32, if_neg hc34, if_neg hc36, if_neg hc38, if_neg hc40, if_neg hc42, if_neg hc44, if_neg hc46, if_neg hc48] at kt
                                        refine pre49 t ?_
                                        show Steps _ _ _ (T15.setTop (mkF m 129 #[vI p1] [iI 126, iI p1])) _
                                        refine XS.icmpYes X15.here hx rfl (pc0 := 129) (pc' := 136) rfl (hb hby d2_129) rfl (feq hc48).2 (by decide) (by decide) ?_
                                        show Steps _ _ _ (T15.setTop (mkF m 136 #[vI p1] [])) _
                                        refine XS.iconst X15.here hx rfl (hb hby d2_136) ?_
                                        exact kt
        obtain ⟨fs, hr, hrun, hended, hW, hsame⟩ := X20.leave (v := some (.int (nar .boolean v19))) (fun h => by rw [Bd.returns] at h; cases h)
        refine ⟨_, _, pre13 _ ?_, hrun, hended, _, _, rfl, ?_, ⟨_, rfl⟩, hW, hsame.mono (by decide) (by decide)⟩
        · show Steps _ _ _ (T9.setTop (mkF m 31 #[vI p1] [iI 65, iI p1])) _
          refine st15 _ ?_
          show Steps _ _ _ (T15.setTop (mkF m 42 #[vI p1] [])) _
          refine XS.iloadN X15.here hx rfl (hb hby d2_42) rfl ?_
          show Steps _ _ _ (T15.setTop (mkF m 43 #[vI p1] [iI p1])) _
          refine XS.bipush X15.here hx rfl (hb hby d2_43) ?_
          show Steps _ _ _ (T15.setTop (mkF m 45 #[vI p1] [iI 33, iI p1])) _
          refine st20 _ ?_
          show Steps _ _ _ (T20.setTop (mkF m 137 #[vI p1] [iI v19])) _
          exact retN X20 hx (t := .boolean) Bd.returns (by simp) (hb hby d2_137) hr
        · show Q2 Z p1 h0 _ T20.heap _
          rw [e20]
          exact ⟨by subst hv19; first | rfl | (simp only [own_ref, if_pos hg2, if_pos hg8, if_pos hg14]; done) | (simp only [own_ref, if_pos hg2, if_pos hg8, if_pos hg14]; rfl) | (simp only [own_ref, if_pos hg2, if_pos hg8, if_pos hg14, nar] ; first | rfl | (simp; done) | decide), rfl, rfl⟩
      · by_cases hc50 : p1 < (65 : Int32)
        · exact absurd hg14 (by simp only [hc50, or_false, or_true, true_or, false_or, and_true, true_and, false_and, and_false, not_true_eq_false, not_false_eq_true])
        · have pre52 : ∀ t, Steps p.tables e below (T9.setTop (mkF m 37 #[vI p1] [iI 90, iI p1])) t → Steps p.tables e below (s₁.setTop (entryFrame m #[(.int p1)] 1)) t := by
            intro t kt
            refine pre13 t ?_
            show Steps _ _ _ (T9.setTop (mkF m 31 #[vI p1] [iI 65, iI p1])) _
            refine XS.icmpNo X9.here hx rfl (hb hby d2_31) rfl (flt hc50).1 ?_
            show Steps _ _ _ (T9.setTop (mkF m 34 #[vI p1] [])) _
            refine XS.iloadN X9.here hx rfl (hb hby d2_34) rfl ?_
            show Steps _ _ _ (T9.setTop (mkF m 35 #[vI p1] [iI p1])) _
            refine XS.bipush X9.here hx rfl (hb hby d2_35) ?_
            exact kt
          by_cases hc51 : (90 : Int32) < p1
          · exact absurd hg14 (by simp only [hc50, hc51, or_false, or_true, true_or, false_or, and_true, true_and, false_and, and_false, not_true_eq_false, not_false_eq_true])
          · obtain ⟨fs, hr, hrun, hended, hW, hsame⟩ := X9.leave (v := some (.int (1 : Int32))) (fun h => by rw [Bd.returns] at h; cases h)
            refine ⟨_, _, pre52 _ ?_, hrun, hended, _, _, rfl, ?_, ⟨_, rfl⟩, hW, hsame.mono (by decide) (by decide)⟩
            · show Steps _ _ _ (T9.setTop (mkF m 37 #[vI p1] [iI 90, iI p1])) _
              refine XS.icmpNo X9.here hx rfl (hb hby d2_37) rfl (flt hc51).2.2.1 ?_
              show Steps _ _ _ (T9.setTop (mkF m 40 #[vI p1] [])) _
              refine XS.iconst X9.here hx rfl (hb hby d2_40) ?_
              show Steps _ _ _ (T9.setTop (mkF m 41 #[vI p1] [iI 1])) _
              exact retN X9 hx (t := .boolean) Bd.returns (by simp) (hb hby d2_41) hr
            · show Q2 Z p1 h0 _ T9.heap _
              rw [e9]
              exact ⟨by first | rfl | (simp only [own_ref, if_pos hg2, if_pos hg8, if_neg hg14, if_neg hc50, if_neg hc51]; done) | (simp only [own_ref, if_pos hg2, if_pos hg8, if_neg hg14, if_neg hc50, if_neg hc51]; rfl) | (simp only [own_ref, if_pos hg2, if_pos hg8, if_neg hg14, if_neg hc50, if_neg hc51, nar] ; first | rfl | (simp; done) | decide), rfl, rfl⟩
    · by_cases hc53 : p1 < (97 : Int32)
      · exact absurd hg8 (by simp only [hc53, or_false, or_true, true_or, false_or, and_true, true_and, false_and, and_false, not_true_eq_false, not_false_eq_true])
      · have pre55 : ∀ t, Steps p.tables e below (T3.setTop (mkF m 23 #[vI p1] [iI 122, iI p1])) t → Steps p.tables e below (s₁.setTop (entryFrame m #[(.int p1)] 1)) t := by
          intro t kt
          refine pre7 t ?_
          show Steps _ _ _ (T3.setTop (mkF m 17 #[vI p1] [iI 97, iI p1])) _
          refine XS.icmpNo X3.here hx rfl (hb hby d2_17) rfl (flt hc53).1 ?_
          show Steps _ _ _ (T3.setTop (mkF m 20 #[vI p1] [])) _
          refine XS.iloadN X3.here hx rfl (hb hby d2_20) rfl ?_
          show Steps _ _ _ (T3.setTop (mkF m 21 #[vI p1] [iI p1])) _
          refine XS.bipush X3.here hx rfl (hb hby d2_21) ?_
          exact kt
        by_cases hc54 : (122 : Int32) < p1
        · exact absurd hg8 (by simp only [hc53, hc54, or_false, or_true, true_or, false_or, and_true, true_and, false_and, and_false, not_true_eq_false, not_false_eq_true])
        · obtain ⟨fs, hr, hrun, hended, hW, hsame⟩ := X3.leave (v := some (.int (1 : Int32))) (fun h => by rw [Bd.returns] at h; cases h)
          refine ⟨_, _, pre55 _ ?_, hrun, hended, _, _, rfl, ?_, ⟨_, rfl⟩, hW, hsame.mono (by decide) (by decide)⟩
          · show Steps _ _ _ (T3.setTop (mkF m 23 #[vI p1] [iI 122, iI p1])) _
            refine XS.icmpNo X3.here hx rfl (hb hby d2_23) rfl (flt hc54).2.2.1 ?_
            show Steps _ _ _ (T3.setTop (mkF m 26 #[vI p1] [])) _
            refine XS.iconst X3.here hx rfl (hb hby d2_26) ?_
            show Steps _ _ _ (T3.setTop (mkF m 27 #[vI p1] [iI 1])) _
            exact retN X3 hx (t := .boolean) Bd.returns (by simp) (hb hby d2_27) hr
          · show Q2 Z p1 h0 _ T3.heap _
            rw [e3]
            exact ⟨by first | rfl | (simp only [own_ref, if_pos hg2, if_neg hg8, if_neg hc53, if_neg hc54]; done) | (simp only [own_ref, if_pos hg2, if_neg hg8, if_neg hc53, if_neg hc54]; rfl) | (simp only [own_ref, if_pos hg2, if_neg hg8, if_neg hc53, if_neg hc54, nar] ; first | rfl | (simp; done) | decide), rfl, rfl⟩
  · by_cases hc56 : p1 < (48 : Int32)
    · exact absurd hg2 (by simp only [hc56, or_false, or_true, true_or, false_or, and_true, true_and, false_and, and_false, not_true_eq_false, not_false_eq_true])
    · have pre58 : ∀ t, Steps p.tables e below (s₁.setTop (mkF m 9 #[vI p1] [iI 57, iI p1])) t → Steps p.tables e below (s₁.setTop (entryFrame m #[(.int p1)] 1)) t := by
        intro t kt
        refine pre1 t ?_
        show Steps _ _ _ (s₁.setTop (mkF m 3 #[vI p1] [iI 48, iI p1])) _
        refine XS.icmpNo X0.here hx rfl (hb hby d2_3) rfl (flt hc56).1 ?_
        show Steps _ _ _ (s₁.setTop (mkF m 6 #[vI p1] [])) _
        refine XS.iloadN X0.here hx rfl (hb hby d2_6) rfl ?_
        show Steps _ _ _ (s₁.setTop (mkF m 7 #[vI p1] [iI p1])) _
        refine XS.bipush X0.here hx rfl (hb hby d2_7) ?_
        exact kt
      by_cases hc57 : (57 : Int32) < p1
      · exact absurd hg2 (by simp only [hc56, hc57, or_false, or_true, true_or, false_or, and_true, true_and, false_and, and_false, not_true_eq_false, not_false_eq_true])
      · obtain ⟨fs, hr, hrun, hended, hW, hsame⟩ := X0.leave (v := some (.int (1 : Int32))) (fun h => by rw [Bd.returns] at h; cases h)
        refine ⟨_, _, pre58 _ ?_, hrun, hended, _, _, rfl, ?_, ⟨_, rfl⟩, hW, hsame.mono (by decide) (by decide)⟩
        · show Steps _ _ _ (s₁.setTop (mkF m 9 #[vI p1] [iI 57, iI p1])) _
          refine XS.icmpNo X0.here hx rfl (hb hby d2_9) rfl (flt hc57).2.2.1 ?_
          show Steps _ _ _ (s₁.setTop (mkF m 12 #[vI p1] [])) _
          refine XS.iconst X0.here hx rfl (hb hby d2_12) ?_
          show Steps _ _ _ (s₁.setTop (mkF m 13 #[vI p1] [iI 1])) _
          exact retN X0 hx (t := .boolean) Bd.returns (by simp) (hb hby d2_13) hr
        · show Q2 Z p1 h0 _ s₁.heap _
          rw [e0]
          exact ⟨by first | rfl | (simp only [own_ref, if_neg hg2, if_neg hc56, if_neg hc57]; done) | (simp only [own_ref, if_neg hg2, if_neg hc56, if_neg hc57]; rfl) | (simp only [own_ref, if_neg hg2, if_neg hc56, if_neg hc57, nar] ; first | rfl | (simp; done) | decide), rfl, rfl⟩
def own_isT (p1 : Int32) : Int32 := (nar .boolean (if p1 < (0 : Int32) then (0 : Int32) else (if p1 < (256 : Int32) then (if (own_ref p1) = (0 : Int32) then (0 : Int32) else (1 : Int32)) else (0 : Int32))))
theorem d1_0 : decode prog_7_method_2_code 0 = .ok (.iload_n 0, 1) := by decide +kernel
theorem d1_1 : decode prog_7_method_2_code 1 = .ok (.ifCond .lt 23, 3) := by decide +kernel
theorem d1_4 : decode prog_7_method_2_code 4 = .ok (.iload_n 0, 1) := by decide +kernel
theorem d1_5 : decode prog_7_method_2_code 5 = .ok (.getstatic 7, 3) := by decide +kernel
theorem d1_8 : decode prog_7_method_2_code 8 = .ok (.arraylength, 1) := by decide +kernel
theorem d1_9 : decode prog_7_method_2_code 9 = .ok (.if_icmp .ge 15, 3) := by decide +kernel
theorem d1_12 : decode prog_7_method_2_code 12 = .ok (.getstatic 7, 3) := by decide +kernel
theorem d1_15 : decode prog_7_method_2_code 15 = .ok (.iload_n 0, 1) := by decide +kernel
theorem d1_16 : decode prog_7_method_2_code 16 = .ok (.baload, 1) := by decide +kernel
theorem d1_17 : decode prog_7_method_2_code 17 = .ok (.ifCond .eq 7, 3) := by decide +kernel
theorem d1_20 : decode prog_7_method_2_code 20 = .ok (.iconst 1, 1) := by decide +kernel
theorem d1_21 : decode prog_7_method_2_code 21 = .ok (.goto 4, 3) := by decide +kernel
theorem d1_24 : decode prog_7_method_2_code 24 = .ok (.iconst 0, 1) := by decide +kernel
theorem d1_25 : decode prog_7_method_2_code 25 = .ok (.ireturn, 1) := by decide +kernel
theorem pn_1 : plainName "io/headrace/core/HttpChars" = true := by first | (simp [plainName, overriddenIn]; done) | decide +kernel
theorem ef_1 (m : MethodId) (x0 : Int32) : entryFrame m #[(.int x0)] 1 = mkF m 0 #[.val (.int x0)] [] := by first | (simp [entryFrame, mkF, argsToLocals, Value.category]; done) | rfl
def Q1 (Z : State) (p1 : Int32) (s_T : Addr) (cl : Cell) (h0 : Heap) (v : Option Value) (h : Heap) (L : List Loc) : Prop := v = some (.int (own_isT p1)) ∧ L = [] ∧ h = h0
set_option maxRecDepth 65536 in
set_option maxHeartbeats 40000000 in
theorem rm1 (l : Launch) (Z : State) (a0 : Array Value) (hw : ∀ d ∈ tables_1, d.before a0 Z = true) (ws : List Jvm.Cond) (p1 : Int32) (s_T : Addr) (cl : Cell) (h0 : Heap) (S_T : Sta Z h0 "io/headrace/core/HttpChars" "TCHAR" "[Z" (.ref s_T)) (TB : Tab Z h0 s_T cl .boolean (256 : Int32)) (hT : ∀ j : Int32, ¬ j < (0 : Int32) → j < (256 : Int32) → atv cl j = own_ref j) :
    MetFree l (⟨"io/headrace/core/HttpChars", "isTchar", "(I)Z"⟩ : MethodName) (head1 (Jvm.Cond.code (⟨"io/headrace/core/HttpChars", "isTchar", "(I)Z"⟩ : MethodName) prog_7_method_2_code 1 (some .boolean) :: ws) ({ frames := 0, cells := 0, slots := 0, locals := 0 } : Room)) (fun a U => a = #[(.int p1)] ∧ Z.Warmed39 U.vm ∧ U.heap = h0) (fun _ _ _ _ _ => True) (fun _ U o U' => ∃ v L, o = .returned v ∧ Q1 Z p1 s_T cl h0 v U'.heap L ∧ FrameEnd U o U' L ({ frames := 0, cells := 0, slots := 0, locals := 0 } : Room).cells ({ frames := 0, cells := 0, slots := 0, locals := 0 } : Room).slots) := by
  refine MetFree.of_bodySF (plainFor_of_name pn_1) hisR ?_
  intro p e s m args below meth c s₁ Bd hml0 hP hK
  obtain ⟨rfl, hZ, hh⟩ := hP
  have hx := Bd.exec
  have hby := Bd.bytes
  have hml : c.maxLocals = 1 := hml0
  have hown : s.vm.findClass "io/headrace/core/HttpChars" = some m.cls := findClass_of_methodNamed Bd.named
  have hnm := (name_of_methodNamed Bd.named Bd.method).1
  have X0 : Stand p l e ({ frames := 0, cells := 0, slots := 0, locals := 0 } : Room) s m #[(.int p1)] below meth c s₁ [] 0 0 := Stand.of_body Bd
  have e0 : s₁.heap = h0 := by rw [← hh, Bd.state]; rfl
  have pre0 : ∀ t, Steps p.tables e below (s₁.setTop (mkF m 0 #[.val (.int p1)] [])) t → Steps p.tables e below (s₁.setTop (entryFrame m #[(.int p1)] 1)) t := fun t k => castTop (ef_1 m p1) k
  obtain ⟨v1, hv1⟩ : ∃ z : Int32, z = (if p1 < (0 : Int32) then (0 : Int32) else (if p1 < (256 : Int32) then (if (own_ref p1) = (0 : Int32) then (0 : Int32) else (1 : Int32)) else (0 : Int32))) := ⟨_, rfl⟩
  obtain ⟨T2, X2, e2, st2⟩ : own_Mid X0 h0 (mkF m 1 #[vI p1] [iI p1]) (mkF m 25 #[vI p1] [iI v1]) := by
    by_cases hc3 : p1 < (0 : Int32)
    · refine ⟨s₁, X0, e0, fun t kt => ?_⟩
      subst hv1
      simp only [if_pos hc3] at kt
      show Steps _ _ _ (s₁.setTop (mkF m 1 #[vI p1] [iI p1])) _
      refine XS.ifYes X0.here hx rfl (pc0 := 1) (pc' := 24) rfl (hb hby d1_1) rfl ((if0 _ _).trans (tlt hc3).1) (by decide) (by decide) ?_
      show Steps _ _ _ (s₁.setTop (mkF m 24 #[vI p1] [])) _
      refine XS.iconst X0.here hx rfl (hb hby d1_24) ?_
      exact kt
    · obtain ⟨T4, X4, e4, st4⟩ := getS2 X0 hx hZ hown (host := "") (Or.inl (hw _ (List.mem_of_getElem? (i := 4) rfl))) Via.refl e0 S_T (g := (mkF m 5 #[vI p1] [iI p1])) rfl (hb hby d1_5)
      have pre6 : ∀ t, Steps p.tables e below (T4.setTop (mkF m 9 #[vI p1] [iI 256, iI p1])) t → Steps p.tables e below (s₁.setTop (mkF m 1 #[vI p1] [iI p1])) t := by
        intro t kt
        show Steps _ _ _ (s₁.setTop (mkF m 1 #[vI p1] [iI p1])) _
        refine XS.ifNo X0.here hx rfl (hb hby d1_1) rfl ((if0 _ _).trans (flt hc3).1) ?_
        show Steps _ _ _ (s₁.setTop (mkF m 4 #[vI p1] [])) _
        refine XS.iloadN X0.here hx rfl (hb hby d1_4) rfl ?_
        show Steps _ _ _ (s₁.setTop (mkF m 5 #[vI p1] [iI p1])) _
        refine st4 _ ?_
        show Steps _ _ _ (T4.setTop (mkF m 8 #[vI p1] [iR s_T, iI p1])) _
        refine X4.arraylength hx (by rw [e4]; exact TB.1.1) (State.isArrayOf_alike hZ.alike TB.1.2.1) (g := (mkF m 8 #[vI p1] [iR s_T, iI p1])) rfl rfl (hb hby d1_8) _ ?_
        rw [len_of TB.2.1 TB.2.2.1]
        exact kt
      by_cases hc5 : p1 < (256 : Int32)
      · obtain ⟨T7, X7, e7, st7⟩ := getS2 X4 hx hZ hown (host := "") (Or.inl (hw _ (List.mem_of_getElem? (i := 4) rfl))) Via.refl e4 S_T (g := (mkF m 12 #[vI p1] [])) rfl (hb hby d1_12)
        have hin8 : ¬ (p1 < 0 ∨ cl.slots.size ≤ (p1).toNatClampNeg) := inb_of TB.2.1 ⟨hc3, hc5⟩
        have hat9 : cl.slots[(p1).toNatClampNeg]? = some (.int (own_ref p1)) := (TB.2.2.2 _ hin8).trans (by rw [hT _ hc3 hc5])
        have pre11 : ∀ t, Steps p.tables e below (T7.setTop (mkF m 17 #[vI p1] [iI (own_ref p1)])) t → Steps p.tables e below (s₁.setTop (mkF m 1 #[vI p1] [iI p1])) t := by
          intro t kt
          refine pre6 t ?_
          show Steps _ _ _ (T4.setTop (mkF m 9 #[vI p1] [iI 256, iI p1])) _
          refine XS.icmpNo X4.here hx rfl (hb hby d1_9) rfl (tlt hc5).2.1 ?_
          show Steps _ _ _ (T4.setTop (mkF m 12 #[vI p1] [])) _
          refine st7 _ ?_
          show Steps _ _ _ (T7.setTop (mkF m 15 #[vI p1] [iR s_T])) _
          refine XS.iloadN X7.here hx rfl (hb hby d1_15) rfl ?_
          show Steps _ _ _ (T7.setTop (mkF m 16 #[vI p1] [iI p1, iR s_T])) _
          refine X7.baloadBooleans hx (j := p1) (v := (.int (own_ref p1))) (by rw [e7]; exact TB.1.1) (State.isArrayOf_alike hZ.alike TB.1.2.1) TB.1.2.2 hin8 hat9 (g := (mkF m 16 #[vI p1] [iI p1, iR s_T])) rfl rfl (hb hby d1_16) _ ?_
          exact kt
        by_cases hc10 : (own_ref p1) = (0 : Int32)
        · refine ⟨T7, X7, e7, fun t kt => ?_⟩
          subst hv1
          simp only [if_neg hc3, if_pos hc5, if_pos hc10] at kt
          refine pre11 t ?_
          show Steps _ _ _ (T7.setTop (mkF m 17 #[vI p1] [iI (own_ref p1)])) _
          refine XS.ifYes X7.here hx rfl (pc0 := 17) (pc' := 24) rfl (hb hby d1_17) rfl ((if0 _ _).trans (teq hc10).1) (by decide) (by decide) ?_
          show Steps _ _ _ (T7.setTop (mkF m 24 #[vI p1] [])) _
          refine XS.iconst X7.here hx rfl (hb hby d1_24) ?_
          exact kt
        · refine ⟨T7, X7, e7, fun t kt => ?_⟩
          subst hv1
          simp only [if_neg hc3, if_pos hc5, if_neg hc10] at kt
          refine pre11 t ?_
          show Steps _ _ _ (T7.setTop (mkF m 17 #[vI p1] [iI (own_ref p1)])) _
          refine XS.ifNo X7.here hx rfl (hb hby d1_17) rfl ((if0 _ _).trans (feq hc10).1) ?_
          show Steps _ _ _ (T7.setTop (mkF m 20 #[vI p1] [])) _
          refine XS.iconst X7.here hx rfl (hb hby d1_20) ?_
          show Steps _ _ _ (T7.setTop (mkF m 21 #[vI p1] [iI 1])) _
          refine XS.goto X7.here hx rfl (pc0 := 21) (pc' := 25) rfl (hb hby d1_21) (by decide) (by decide) ?_
          exact kt
      · refine ⟨T4, X4, e4, fun t kt => ?_⟩
        subst hv1
        simp only [if_neg hc3, if_neg hc5] at kt
        refine pre6 t ?_
        show Steps _ _ _ (T4.setTop (mkF m 9 #[vI p1] [iI 256, iI p1])) _
        refine XS.icmpYes X4.here hx rfl (pc0 := 9) (pc' := 24) rfl (hb hby d1_9) rfl (flt hc5).2.1 (by decide) (by decide) ?_
        show Steps _ _ _ (T4.setTop (mkF m 24 #[vI p1] [])) _
        refine XS.iconst X4.here hx rfl (hb hby d1_24) ?_
        exact kt
  obtain ⟨fs, hr, hrun, hended, hW, hsame⟩ := X2.leave (v := some (.int (nar .boolean v1))) (fun h => by rw [Bd.returns] at h; cases h)
  refine ⟨_, _, pre0 _ ?_, hrun, hended, _, _, rfl, ?_, ⟨_, rfl⟩, hW, hsame.mono (by decide) (by decide)⟩
  · show Steps _ _ _ (s₁.setTop (mkF m 0 #[vI p1] [])) _
    refine XS.iloadN X0.here hx rfl (hb hby d1_0) rfl ?_
    show Steps _ _ _ (s₁.setTop (mkF m 1 #[vI p1] [iI p1])) _
    refine st2 _ ?_
    show Steps _ _ _ (T2.setTop (mkF m 25 #[vI p1] [iI v1])) _
    exact retN X2 hx (t := .boolean) Bd.returns (by simp) (hb hby d1_25) hr
  · show Q1 Z p1 s_T cl h0 _ T2.heap _
    rw [e2]
    exact ⟨by subst hv1; first | rfl | (simp only [own_isT]; done) | (simp only [own_isT]; rfl) | (simp only [own_isT, nar] ; first | rfl | (simp; done) | decide), rfl, rfl⟩
theorem own_ofNat (v : Int32) (n : Nat) (hn : n ≤ 1000000) (h0 : 0 ≤ v.toInt) (h1 : v.toInt < n) : ∃ i, i < n ∧ v = Int32.ofNat i := by
  refine ⟨v.toInt.toNat, by omega, Int32.toInt_inj.mp ?_⟩
  rw [Int32.toInt_ofNat_of_lt (by omega)]; omega
theorem own_iv (lo n : Nat) (val : Int32) (hb : lo + n ≤ 1000) (h : (List.range n).all (fun i => own_ref (Int32.ofNat (lo + i)) == val) = true) (j : Int32) (h0 : (lo : Int) ≤ j.toInt) (h1 : j.toInt < (lo + n : Nat)) : own_ref j = val := by
  obtain ⟨i, hi, rfl⟩ := own_ofNat j (lo + n) (by omega) (by omega) (by omega)
  rw [Int32.toInt_ofNat_of_lt (by omega)] at h0
  have q := List.all_eq_true.mp h (i - lo) (List.mem_range.mpr (by omega))
  rw [show lo + (i - lo) = i by omega] at q
  exact beq_iff_eq.mp q
theorem own_small2 (v : Int32) (h0 : 0 ≤ v.toInt) (h1 : v.toInt < 2) : v = 0 ∨ v = 1 := by
  have h : v.toInt = 0 ∨ v.toInt = 1 := by omega
  rcases h with h | h
  · exact Or.inl (Int32.toInt_inj.mp (h.trans (by decide)))
  · exact Or.inr ((Int32.toInt_inj.mp (h.trans (by decide))))
theorem own_nn (c k : Int32) (h : c.toInt < 0 ∨ 256 ≤ c.toInt) (hk : 0 ≤ k.toInt ∧ k.toInt < 256) : ¬ c = k := fun q => by subst q; omega
theorem own_rr (c a b : Int32) (h : c.toInt < 0 ∨ 256 ≤ c.toInt) (ha : 0 ≤ a.toInt) (hb : b.toInt < 256) : c < a ∨ b < c := by
  rw [Int32.lt_iff_toInt_lt, Int32.lt_iff_toInt_lt]; omega
theorem own_out (c : Int32) (h : c.toInt < 0 ∨ 256 ≤ c.toInt) : own_ref c = 0 := by
  unfold own_ref
  rw [if_pos (own_rr c 48 57 h (by decide) (by decide)), if_pos (own_rr c 97 122 h (by decide) (by decide)), if_pos (own_rr c 65 90 h (by decide) (by decide)), if_neg (own_nn c 33 h (by decide)), if_neg (own_nn c 35 h (by decide)), if_neg (own_nn c 36 h (by decide)), if_neg (own_nn c 37 h (by decide)), if_neg (own_nn c 38 h (by decide)), if_neg (own_nn c 39 h (by decide)), if_neg (own_nn c 42 h (by decide)), if_neg (own_nn c 43 h (by decide)), if_neg (own_nn c 45 h (by decide)), if_neg (own_nn c 46 h (by decide)), if_neg (own_nn c 94 h (by decide)), if_neg (own_nn c 95 h (by decide)), if_neg (own_nn c 96 h (by decide)), if_neg (own_nn c 124 h (by decide)), if_neg (own_nn c 126 h (by decide))]
  decide
theorem own_nb1 (z : Int32) : nar .boolean z = 0 ∨ nar .boolean z = 1 := own_small2 _ (c_and z 1 (by decide)).1 (Int.lt_of_le_of_lt (c_and z 1 (by decide)).2 (by decide))
theorem own_01 (c : Int32) : own_ref c = 0 ∨ own_ref c = 1 := by
  unfold own_ref
  by_cases h1 : (c < (48 : Int32) ∨ (57 : Int32) < c)
  · rw [if_pos h1]
    by_cases h2 : (c < (97 : Int32) ∨ (122 : Int32) < c)
    · rw [if_pos h2]
      by_cases h3 : (c < (65 : Int32) ∨ (90 : Int32) < c)
      · rw [if_pos h3]; exact own_nb1 _
      · rw [if_neg h3]; exact Or.inr rfl
    · rw [if_neg h2]; exact Or.inr rfl
  · rw [if_neg h1]; exact Or.inr rfl

theorem own_same (c : Int32) : own_isT c = own_ref c := by
  unfold own_isT
  by_cases h0 : c < (0 : Int32)
  · rw [if_pos h0]
    rw [Int32.lt_iff_toInt_lt, show (0 : Int32).toInt = 0 from rfl] at h0
    exact (own_out c (Or.inl h0)).symm
  · rw [if_neg h0]
    by_cases h1 : c < (256 : Int32)
    · rw [if_pos h1]
      rcases own_01 c with h | h <;> rw [h] <;> decide
    · rw [if_neg h1]
      rw [Int32.lt_iff_toInt_lt, show (256 : Int32).toInt = 256 from rfl] at h1
      exact (own_out c (Or.inr (by omega))).symm

theorem ef_0 (m : MethodId) (x0 : Int32) (x1 : Int32) : entryFrame m #[(.int x0), (.int x1)] maxLocals = mkF m 0 #[.val (.int x0), .val (.int x1), .unset, .unset, .unset, .unset, .unset, .unset] [] := by first | (simp [entryFrame, mkF, argsToLocals, Value.category, maxLocals]; done) | rfl
def Q0 (Z : State) (p1 : Int32) (p2 : Int32) (s_T : Addr) (cl : Cell) (h0 : Heap) (v : Option Value) (h : Heap) (L : List Loc) : Prop := v = some (.int (1 : Int32)) ∧ L = [] ∧ h = h0
set_option maxRecDepth 65536 in
set_option maxHeartbeats 40000000 in
theorem rm0 (l : Launch) (Z : State) (a0 : Array Value) (hw : ∀ d ∈ tables_1, d.before a0 Z = true) (ws : List Jvm.Cond) (p1 : Int32) (p2 : Int32) (s_T : Addr) (cl : Cell) (h0 : Heap) (S_T : Sta Z h0 "io/headrace/core/HttpChars" "TCHAR" "[Z" (.ref s_T)) (TB : Tab Z h0 s_T cl .boolean (256 : Int32)) (hT : ∀ j : Int32, ¬ j < (0 : Int32) → j < (256 : Int32) → atv cl j = own_ref j) :
    MetFree l x (head1 (Jvm.Cond.code x code maxLocals ret :: ws) room_1) (fun a U => a = #[(.int p1), (.int p2)] ∧ Z.Warmed39 U.vm ∧ U.heap = h0) (fun _ _ _ _ _ => True) (fun _ U o U' => ∃ v L, o = .returned v ∧ Q0 Z p1 p2 s_T cl h0 v U'.heap L ∧ FrameEnd U o U' L room_1.cells room_1.slots) := by
  refine MetFree.of_bodySF (plainFor_of_name pn_0) hisR ?_
  intro p e s m args below meth c s₁ Bd hml0 hP hK
  obtain ⟨rfl, hZ, hh⟩ := hP
  have hx := Bd.exec
  have hby := Bd.bytes
  have hml : c.maxLocals = 8 := hml0
  have hown : s.vm.findClass "io/headrace/core/HttpCharsIsTcharPinLaw" = some m.cls := findClass_of_methodNamed Bd.named
  have hnm := (name_of_methodNamed Bd.named Bd.method).1
  have X0 : Stand p l e room_1 s m #[(.int p1), (.int p2)] below meth c s₁ [] 0 0 := Stand.of_body Bd
  have e0 : s₁.heap = h0 := by rw [← hh, Bd.state]; rfl
  have pre0 : ∀ t, Steps p.tables e below (s₁.setTop (mkF m 0 #[.val (.int p1), .val (.int p2), .unset, .unset, .unset, .unset, .unset, .unset] [])) t → Steps p.tables e below (s₁.setTop (entryFrame m #[(.int p1), (.int p2)] maxLocals)) t := fun t k => castTop (ef_0 m p1 p2) k
  obtain ⟨v1, hv1⟩ : ∃ z : Int32, z = ((((p2.toUInt32 >>> ((8 : Int32) &&& 31).toUInt32).toInt32) &&& (1023 : Int32)) - (256 : Int32)) := ⟨_, rfl⟩
  obtain ⟨_, _, ⟨T2, L2, k2, n2⟩, -, X2, ⟨Lc2, hQ2, l2, y2, z2⟩, st2⟩ := Jvm.LawKit.callS X0 hx (y := (⟨"io/headrace/core/HttpChars", "isTchar", "(I)Z"⟩ : MethodName)) hown (mvT hZ (hw _ (List.mem_of_getElem? (i := 0) rfl))) (mvT hZ (hw _ (List.mem_of_getElem? (i := 1) rfl))) (mvT hZ (hw _ (List.mem_of_getElem? (i := 2) rfl))) (mvT hZ (hw _ (List.mem_of_getElem? (i := 3) rfl))) (by decide) (backOf (W := 0) (rm1 l Z a0 hw [] p1 s_T cl h0 S_T TB hT) hZ (hw _ (List.mem_of_getElem? (i := 3) rfl)) (hw _ (List.mem_of_getElem? (i := 2) rfl)) (by decide) (by decide)) (g := (mkF m 23 #[vI p1, vI p2, vI p1, vI (p2 &&& (255 : Int32)), vI v1, .unset, .unset, .unset] [iI p1])) rfl (by rw [hml]; rfl) (argsL := [(.int p1)]) (rest := []) (lenOf pd_0 rfl) rfl (by show 2 * 0 + _ ≤ _; exact Nat.le_of_eq rfl) (hb hby at_23) (fun _ _ => ⟨rfl, e0, (by decide : 0 + 0 ≤ _), (by decide : 0 + 0 ≤ _)⟩)
  dsimp only [Pt.U, Pt.locs, Pt.cells, Pt.slots] at X2 l2 y2 z2 st2 hQ2
  subst l2 y2 z2
  obtain ⟨rfl, rfl, e2⟩ := hQ2
  try rw [List.append_nil] at X2
  obtain ⟨_, _, ⟨T3, L3, k3, n3⟩, -, X3, ⟨Lc3, hQ3, l3, y3, z3⟩, st3⟩ := Jvm.LawKit.callS X2 hx (y := (⟨"io/headrace/core/HttpCharsIsTcharPinLaw", "ref", "(I)Z"⟩ : MethodName)) hown (mvT hZ (hw _ (List.mem_of_getElem? (i := 6) rfl))) (mvT hZ (hw _ (List.mem_of_getElem? (i := 7) rfl))) (mvT hZ (hw _ (List.mem_of_getElem? (i := 8) rfl))) (mvT hZ (hw _ (List.mem_of_getElem? (i := 9) rfl))) (by decide) (backOf (W := 1) (rm2 l Z a0 hw [] p1 h0 ) hZ (hw _ (List.mem_of_getElem? (i := 9) rfl)) (hw _ (List.mem_of_getElem? (i := 8) rfl)) (by decide) (by decide)) (g := (mkF m 27 #[vI p1, vI p2, vI p1, vI (p2 &&& (255 : Int32)), vI v1, .unset, .unset, .unset] [iI p1, iI (own_isT p1)])) rfl (by rw [hml]; rfl) (argsL := [(.int p1)]) (rest := [(.int (own_isT p1))]) (lenOf pd_0 rfl) rfl (by show 2 * 0 + _ ≤ _; exact Nat.le_of_eq rfl) (hb hby at_27) (fun _ _ => ⟨rfl, e2, (by decide : 0 + 0 ≤ _), (by decide : 0 + 0 ≤ _)⟩)
  dsimp only [Pt.U, Pt.locs, Pt.cells, Pt.slots] at X3 l3 y3 z3 st3 hQ3
  subst l3 y3 z3
  obtain ⟨rfl, rfl, e3⟩ := hQ3
  try rw [List.append_nil] at X3
  have hh4 : (own_isT p1) = (own_ref p1) := own_same _
  obtain ⟨_, _, ⟨T5, L5, k5, n5⟩, -, X5, ⟨Lc5, hQ5, l5, y5, z5⟩, st5⟩ := Jvm.LawKit.callS X3 hx (y := (⟨"io/headrace/core/HttpChars", "isTchar", "(I)Z"⟩ : MethodName)) hown (mvT hZ (hw _ (List.mem_of_getElem? (i := 0) rfl))) (mvT hZ (hw _ (List.mem_of_getElem? (i := 1) rfl))) (mvT hZ (hw _ (List.mem_of_getElem? (i := 2) rfl))) (mvT hZ (hw _ (List.mem_of_getElem? (i := 3) rfl))) (by decide) (backOf (W := 0) (rm1 l Z a0 hw [] (p2 &&& (255 : Int32)) s_T cl h0 S_T TB hT) hZ (hw _ (List.mem_of_getElem? (i := 3) rfl)) (hw _ (List.mem_of_getElem? (i := 2) rfl)) (by decide) (by decide)) (g := (mkF m 41 #[vI p1, vI p2, vI p1, vI (p2 &&& (255 : Int32)), vI v1, vI 1, .unset, .unset] [iI (p2 &&& (255 : Int32))])) rfl (by rw [hml]; rfl) (argsL := [(.int (p2 &&& (255 : Int32)))]) (rest := []) (lenOf pd_0 rfl) rfl (by show 2 * 0 + _ ≤ _; exact Nat.le_of_eq rfl) (hb hby at_41) (fun _ _ => ⟨rfl, e3, (by decide : 0 + 0 ≤ _), (by decide : 0 + 0 ≤ _)⟩)
  dsimp only [Pt.U, Pt.locs, Pt.cells, Pt.slots] at X5 l5 y5 z5 st5 hQ5
  subst l5 y5 z5
  obtain ⟨rfl, rfl, e5⟩ := hQ5
  try rw [List.append_nil] at X5
  obtain ⟨_, _, ⟨T6, L6, k6, n6⟩, -, X6, ⟨Lc6, hQ6, l6, y6, z6⟩, st6⟩ := Jvm.LawKit.callS X5 hx (y := (⟨"io/headrace/core/HttpCharsIsTcharPinLaw", "ref", "(I)Z"⟩ : MethodName)) hown (mvT hZ (hw _ (List.mem_of_getElem? (i := 6) rfl))) (mvT hZ (hw _ (List.mem_of_getElem? (i := 7) rfl))) (mvT hZ (hw _ (List.mem_of_getElem? (i := 8) rfl))) (mvT hZ (hw _ (List.mem_of_getElem? (i := 9) rfl))) (by decide) (backOf (W := 1) (rm2 l Z a0 hw [] (p2 &&& (255 : Int32)) h0 ) hZ (hw _ (List.mem_of_getElem? (i := 9) rfl)) (hw _ (List.mem_of_getElem? (i := 8) rfl)) (by decide) (by decide)) (g := (mkF m 45 #[vI p1, vI p2, vI p1, vI (p2 &&& (255 : Int32)), vI v1, vI 1, .unset, .unset] [iI (p2 &&& (255 : Int32)), iI (own_isT (p2 &&& (255 : Int32)))])) rfl (by rw [hml]; rfl) (argsL := [(.int (p2 &&& (255 : Int32)))]) (rest := [(.int (own_isT (p2 &&& (255 : Int32))))]) (lenOf pd_0 rfl) rfl (by show 2 * 0 + _ ≤ _; exact Nat.le_of_eq rfl) (hb hby at_45) (fun _ _ => ⟨rfl, e5, (by decide : 0 + 0 ≤ _), (by decide : 0 + 0 ≤ _)⟩)
  dsimp only [Pt.U, Pt.locs, Pt.cells, Pt.slots] at X6 l6 y6 z6 st6 hQ6
  subst l6 y6 z6
  obtain ⟨rfl, rfl, e6⟩ := hQ6
  try rw [List.append_nil] at X6
  have hh7 : (own_isT (p2 &&& (255 : Int32))) = (own_ref (p2 &&& (255 : Int32))) := own_same _
  obtain ⟨_, _, ⟨T8, L8, k8, n8⟩, -, X8, ⟨Lc8, hQ8, l8, y8, z8⟩, st8⟩ := Jvm.LawKit.callS X6 hx (y := (⟨"io/headrace/core/HttpChars", "isTchar", "(I)Z"⟩ : MethodName)) hown (mvT hZ (hw _ (List.mem_of_getElem? (i := 0) rfl))) (mvT hZ (hw _ (List.mem_of_getElem? (i := 1) rfl))) (mvT hZ (hw _ (List.mem_of_getElem? (i := 2) rfl))) (mvT hZ (hw _ (List.mem_of_getElem? (i := 3) rfl))) (by decide) (backOf (W := 0) (rm1 l Z a0 hw [] v1 s_T cl h0 S_T TB hT) hZ (hw _ (List.mem_of_getElem? (i := 3) rfl)) (hw _ (List.mem_of_getElem? (i := 2) rfl)) (by decide) (by decide)) (g := (mkF m 60 #[vI p1, vI p2, vI p1, vI (p2 &&& (255 : Int32)), vI v1, vI 1, vI 1, .unset] [iI v1])) rfl (by rw [hml]; rfl) (argsL := [(.int v1)]) (rest := []) (lenOf pd_0 rfl) rfl (by show 2 * 0 + _ ≤ _; exact Nat.le_of_eq rfl) (hb hby at_60) (fun _ _ => ⟨rfl, e6, (by decide : 0 + 0 ≤ _), (by decide : 0 + 0 ≤ _)⟩)
  dsimp only [Pt.U, Pt.locs, Pt.cells, Pt.slots] at X8 l8 y8 z8 st8 hQ8
  subst l8 y8 z8
  obtain ⟨rfl, rfl, e8⟩ := hQ8
  try rw [List.append_nil] at X8
  obtain ⟨_, _, ⟨T9, L9, k9, n9⟩, -, X9, ⟨Lc9, hQ9, l9, y9, z9⟩, st9⟩ := Jvm.LawKit.callS X8 hx (y := (⟨"io/headrace/core/HttpCharsIsTcharPinLaw", "ref", "(I)Z"⟩ : MethodName)) hown (mvT hZ (hw _ (List.mem_of_getElem? (i := 6) rfl))) (mvT hZ (hw _ (List.mem_of_getElem? (i := 7) rfl))) (mvT hZ (hw _ (List.mem_of_getElem? (i := 8) rfl))) (mvT hZ (hw _ (List.mem_of_getElem? (i := 9) rfl))) (by decide) (backOf (W := 1) (rm2 l Z a0 hw [] v1 h0 ) hZ (hw _ (List.mem_of_getElem? (i := 9) rfl)) (hw _ (List.mem_of_getElem? (i := 8) rfl)) (by decide) (by decide)) (g := (mkF m 65 #[vI p1, vI p2, vI p1, vI (p2 &&& (255 : Int32)), vI v1, vI 1, vI 1, .unset] [iI v1, iI (own_isT v1)])) rfl (by rw [hml]; rfl) (argsL := [(.int v1)]) (rest := [(.int (own_isT v1))]) (lenOf pd_0 rfl) rfl (by show 2 * 0 + _ ≤ _; exact Nat.le_of_eq rfl) (hb hby at_65) (fun _ _ => ⟨rfl, e8, (by decide : 0 + 0 ≤ _), (by decide : 0 + 0 ≤ _)⟩)
  dsimp only [Pt.U, Pt.locs, Pt.cells, Pt.slots] at X9 l9 y9 z9 st9 hQ9
  subst l9 y9 z9
  obtain ⟨rfl, rfl, e9⟩ := hQ9
  try rw [List.append_nil] at X9
  have hh10 : (own_isT v1) = (own_ref v1) := own_same _
  obtain ⟨fs, hr, hrun, hended, hW, hsame⟩ := X9.leave (v := some (.int (1 : Int32))) (fun h => by rw [Bd.returns] at h; cases h)
  refine ⟨_, _, pre0 _ ?_, hrun, hended, _, _, rfl, ?_, ⟨_, rfl⟩, hW, hsame.mono (by decide) (by decide)⟩
  · show Steps _ _ _ (s₁.setTop (mkF m 0 #[vI p1, vI p2, .unset, .unset, .unset, .unset, .unset, .unset] [])) _
    refine XS.iloadN X0.here hx rfl (hb hby at_0) rfl ?_
    show Steps _ _ _ (s₁.setTop (mkF m 1 #[vI p1, vI p2, .unset, .unset, .unset, .unset, .unset, .unset] [iI p1])) _
    refine XS.istoreN X0.here hx rfl (hb hby at_1) rfl (l' := #[vI p1, vI p2, vI p1, .unset, .unset, .unset, .unset, .unset]) rfl ?_
    show Steps _ _ _ (s₁.setTop (mkF m 2 #[vI p1, vI p2, vI p1, .unset, .unset, .unset, .unset, .unset] [])) _
    refine XS.iloadN X0.here hx rfl (hb hby at_2) rfl ?_
    show Steps _ _ _ (s₁.setTop (mkF m 3 #[vI p1, vI p2, vI p1, .unset, .unset, .unset, .unset, .unset] [iI p2])) _
    refine XS.sipush X0.here hx rfl (hb hby at_3) ?_
    show Steps _ _ _ (s₁.setTop (mkF m 6 #[vI p1, vI p2, vI p1, .unset, .unset, .unset, .unset, .unset] [iI 255, iI p2])) _
    refine XS.iand X0.here hx rfl (hb hby at_6) rfl ?_
    show Steps _ _ _ (s₁.setTop (mkF m 7 #[vI p1, vI p2, vI p1, .unset, .unset, .unset, .unset, .unset] [iI (p2 &&& (255 : Int32))])) _
    refine XS.istoreN X0.here hx rfl (hb hby at_7) rfl (l' := #[vI p1, vI p2, vI p1, vI (p2 &&& (255 : Int32)), .unset, .unset, .unset, .unset]) rfl ?_
    show Steps _ _ _ (s₁.setTop (mkF m 8 #[vI p1, vI p2, vI p1, vI (p2 &&& (255 : Int32)), .unset, .unset, .unset, .unset] [])) _
    refine XS.iloadN X0.here hx rfl (hb hby at_8) rfl ?_
    show Steps _ _ _ (s₁.setTop (mkF m 9 #[vI p1, vI p2, vI p1, vI (p2 &&& (255 : Int32)), .unset, .unset, .unset, .unset] [iI p2])) _
    refine XS.bipush X0.here hx rfl (hb hby at_9) ?_
    show Steps _ _ _ (s₁.setTop (mkF m 11 #[vI p1, vI p2, vI p1, vI (p2 &&& (255 : Int32)), .unset, .unset, .unset, .unset] [iI 8, iI p2])) _
    refine XS.iushr X0.here hx rfl (hb hby at_11) rfl ?_
    show Steps _ _ _ (s₁.setTop (mkF m 12 #[vI p1, vI p2, vI p1, vI (p2 &&& (255 : Int32)), .unset, .unset, .unset, .unset] [iI ((p2.toUInt32 >>> ((8 : Int32) &&& 31).toUInt32).toInt32)])) _
    refine XS.sipush X0.here hx rfl (hb hby at_12) ?_
    show Steps _ _ _ (s₁.setTop (mkF m 15 #[vI p1, vI p2, vI p1, vI (p2 &&& (255 : Int32)), .unset, .unset, .unset, .unset] [iI 1023, iI ((p2.toUInt32 >>> ((8 : Int32) &&& 31).toUInt32).toInt32)])) _
    refine XS.iand X0.here hx rfl (hb hby at_15) rfl ?_
    show Steps _ _ _ (s₁.setTop (mkF m 16 #[vI p1, vI p2, vI p1, vI (p2 &&& (255 : Int32)), .unset, .unset, .unset, .unset] [iI (((p2.toUInt32 >>> ((8 : Int32) &&& 31).toUInt32).toInt32) &&& (1023 : Int32))])) _
    refine XS.sipush X0.here hx rfl (hb hby at_16) ?_
    show Steps _ _ _ (s₁.setTop (mkF m 19 #[vI p1, vI p2, vI p1, vI (p2 &&& (255 : Int32)), .unset, .unset, .unset, .unset] [iI 256, iI (((p2.toUInt32 >>> ((8 : Int32) &&& 31).toUInt32).toInt32) &&& (1023 : Int32))])) _
    refine XS.isub X0.here hx rfl (hb hby at_19) rfl ?_
    show Steps _ _ _ (s₁.setTop (mkF m 20 #[vI p1, vI p2, vI p1, vI (p2 &&& (255 : Int32)), .unset, .unset, .unset, .unset] [iI ((((p2.toUInt32 >>> ((8 : Int32) &&& 31).toUInt32).toInt32) &&& (1023 : Int32)) - (256 : Int32))])) _
    refine XS.istore X0.here hx rfl (hb hby at_20) rfl (l' := #[vI p1, vI p2, vI p1, vI (p2 &&& (255 : Int32)), vI ((((p2.toUInt32 >>> ((8 : Int32) &&& 31).toUInt32).toInt32) &&& (1023 : Int32)) - (256 : Int32)), .unset, .unset, .unset]) rfl ?_
    rw [← hv1]
    show Steps _ _ _ (s₁.setTop (mkF m 22 #[vI p1, vI p2, vI p1, vI (p2 &&& (255 : Int32)), vI v1, .unset, .unset, .unset] [])) _
    refine XS.iloadN X0.here hx rfl (hb hby at_22) rfl ?_
    show Steps _ _ _ (s₁.setTop (mkF m 23 #[vI p1, vI p2, vI p1, vI (p2 &&& (255 : Int32)), vI v1, .unset, .unset, .unset] [iI p1])) _
    refine st2 _ ?_
    show Steps _ _ _ (T2.setTop (mkF m 26 #[vI p1, vI p2, vI p1, vI (p2 &&& (255 : Int32)), vI v1, .unset, .unset, .unset] [iI (own_isT p1)])) _
    refine XS.iloadN X2.here hx rfl (hb hby at_26) rfl ?_
    show Steps _ _ _ (T2.setTop (mkF m 27 #[vI p1, vI p2, vI p1, vI (p2 &&& (255 : Int32)), vI v1, .unset, .unset, .unset] [iI p1, iI (own_isT p1)])) _
    refine st3 _ ?_
    show Steps _ _ _ (T3.setTop (mkF m 30 #[vI p1, vI p2, vI p1, vI (p2 &&& (255 : Int32)), vI v1, .unset, .unset, .unset] [iI (own_ref p1), iI (own_isT p1)])) _
    refine XS.icmpNo X3.here hx rfl (hb hby at_30) rfl (teq hh4).2 ?_
    show Steps _ _ _ (T3.setTop (mkF m 33 #[vI p1, vI p2, vI p1, vI (p2 &&& (255 : Int32)), vI v1, .unset, .unset, .unset] [])) _
    refine XS.iconst X3.here hx rfl (hb hby at_33) ?_
    show Steps _ _ _ (T3.setTop (mkF m 34 #[vI p1, vI p2, vI p1, vI (p2 &&& (255 : Int32)), vI v1, .unset, .unset, .unset] [iI 1])) _
    refine XS.goto X3.here hx rfl (pc0 := 34) (pc' := 38) rfl (hb hby at_34) (by decide) (by decide) ?_
    show Steps _ _ _ (T3.setTop (mkF m 38 #[vI p1, vI p2, vI p1, vI (p2 &&& (255 : Int32)), vI v1, .unset, .unset, .unset] [iI 1])) _
    refine XS.istore X3.here hx rfl (hb hby at_38) rfl (l' := #[vI p1, vI p2, vI p1, vI (p2 &&& (255 : Int32)), vI v1, vI 1, .unset, .unset]) rfl ?_
    show Steps _ _ _ (T3.setTop (mkF m 40 #[vI p1, vI p2, vI p1, vI (p2 &&& (255 : Int32)), vI v1, vI 1, .unset, .unset] [])) _
    refine XS.iloadN X3.here hx rfl (hb hby at_40) rfl ?_
    show Steps _ _ _ (T3.setTop (mkF m 41 #[vI p1, vI p2, vI p1, vI (p2 &&& (255 : Int32)), vI v1, vI 1, .unset, .unset] [iI (p2 &&& (255 : Int32))])) _
    refine st5 _ ?_
    show Steps _ _ _ (T5.setTop (mkF m 44 #[vI p1, vI p2, vI p1, vI (p2 &&& (255 : Int32)), vI v1, vI 1, .unset, .unset] [iI (own_isT (p2 &&& (255 : Int32)))])) _
    refine XS.iloadN X5.here hx rfl (hb hby at_44) rfl ?_
    show Steps _ _ _ (T5.setTop (mkF m 45 #[vI p1, vI p2, vI p1, vI (p2 &&& (255 : Int32)), vI v1, vI 1, .unset, .unset] [iI (p2 &&& (255 : Int32)), iI (own_isT (p2 &&& (255 : Int32)))])) _
    refine st6 _ ?_
    show Steps _ _ _ (T6.setTop (mkF m 48 #[vI p1, vI p2, vI p1, vI (p2 &&& (255 : Int32)), vI v1, vI 1, .unset, .unset] [iI (own_ref (p2 &&& (255 : Int32))), iI (own_isT (p2 &&& (255 : Int32)))])) _
    refine XS.icmpNo X6.here hx rfl (hb hby at_48) rfl (teq hh7).2 ?_
    show Steps _ _ _ (T6.setTop (mkF m 51 #[vI p1, vI p2, vI p1, vI (p2 &&& (255 : Int32)), vI v1, vI 1, .unset, .unset] [])) _
    refine XS.iconst X6.here hx rfl (hb hby at_51) ?_
    show Steps _ _ _ (T6.setTop (mkF m 52 #[vI p1, vI p2, vI p1, vI (p2 &&& (255 : Int32)), vI v1, vI 1, .unset, .unset] [iI 1])) _
    refine XS.goto X6.here hx rfl (pc0 := 52) (pc' := 56) rfl (hb hby at_52) (by decide) (by decide) ?_
    show Steps _ _ _ (T6.setTop (mkF m 56 #[vI p1, vI p2, vI p1, vI (p2 &&& (255 : Int32)), vI v1, vI 1, .unset, .unset] [iI 1])) _
    refine XS.istore X6.here hx rfl (hb hby at_56) rfl (l' := #[vI p1, vI p2, vI p1, vI (p2 &&& (255 : Int32)), vI v1, vI 1, vI 1, .unset]) rfl ?_
    show Steps _ _ _ (T6.setTop (mkF m 58 #[vI p1, vI p2, vI p1, vI (p2 &&& (255 : Int32)), vI v1, vI 1, vI 1, .unset] [])) _
    refine XS.iload X6.here hx rfl (hb hby at_58) rfl ?_
    show Steps _ _ _ (T6.setTop (mkF m 60 #[vI p1, vI p2, vI p1, vI (p2 &&& (255 : Int32)), vI v1, vI 1, vI 1, .unset] [iI v1])) _
    refine st8 _ ?_
    show Steps _ _ _ (T8.setTop (mkF m 63 #[vI p1, vI p2, vI p1, vI (p2 &&& (255 : Int32)), vI v1, vI 1, vI 1, .unset] [iI (own_isT v1)])) _
    refine XS.iload X8.here hx rfl (hb hby at_63) rfl ?_
    show Steps _ _ _ (T8.setTop (mkF m 65 #[vI p1, vI p2, vI p1, vI (p2 &&& (255 : Int32)), vI v1, vI 1, vI 1, .unset] [iI v1, iI (own_isT v1)])) _
    refine st9 _ ?_
    show Steps _ _ _ (T9.setTop (mkF m 68 #[vI p1, vI p2, vI p1, vI (p2 &&& (255 : Int32)), vI v1, vI 1, vI 1, .unset] [iI (own_ref v1), iI (own_isT v1)])) _
    refine XS.icmpNo X9.here hx rfl (hb hby at_68) rfl (teq hh10).2 ?_
    show Steps _ _ _ (T9.setTop (mkF m 71 #[vI p1, vI p2, vI p1, vI (p2 &&& (255 : Int32)), vI v1, vI 1, vI 1, .unset] [])) _
    refine XS.iconst X9.here hx rfl (hb hby at_71) ?_
    show Steps _ _ _ (T9.setTop (mkF m 72 #[vI p1, vI p2, vI p1, vI (p2 &&& (255 : Int32)), vI v1, vI 1, vI 1, .unset] [iI 1])) _
    refine XS.goto X9.here hx rfl (pc0 := 72) (pc' := 76) rfl (hb hby at_72) (by decide) (by decide) ?_
    show Steps _ _ _ (T9.setTop (mkF m 76 #[vI p1, vI p2, vI p1, vI (p2 &&& (255 : Int32)), vI v1, vI 1, vI 1, .unset] [iI 1])) _
    refine XS.istore X9.here hx rfl (hb hby at_76) rfl (l' := #[vI p1, vI p2, vI p1, vI (p2 &&& (255 : Int32)), vI v1, vI 1, vI 1, vI 1]) rfl ?_
    show Steps _ _ _ (T9.setTop (mkF m 78 #[vI p1, vI p2, vI p1, vI (p2 &&& (255 : Int32)), vI v1, vI 1, vI 1, vI 1] [])) _
    refine XS.iload X9.here hx rfl (hb hby at_78) rfl ?_
    show Steps _ _ _ (T9.setTop (mkF m 80 #[vI p1, vI p2, vI p1, vI (p2 &&& (255 : Int32)), vI v1, vI 1, vI 1, vI 1] [iI 1])) _
    refine XS.ifNo X9.here hx rfl (hb hby at_80) rfl ((if0 _ _).trans (feq (by decide : ¬ ((1 : Int32) = (0 : Int32)))).1) ?_
    show Steps _ _ _ (T9.setTop (mkF m 83 #[vI p1, vI p2, vI p1, vI (p2 &&& (255 : Int32)), vI v1, vI 1, vI 1, vI 1] [])) _
    refine XS.iload X9.here hx rfl (hb hby at_83) rfl ?_
    show Steps _ _ _ (T9.setTop (mkF m 85 #[vI p1, vI p2, vI p1, vI (p2 &&& (255 : Int32)), vI v1, vI 1, vI 1, vI 1] [iI 1])) _
    refine XS.ifNo X9.here hx rfl (hb hby at_85) rfl ((if0 _ _).trans (feq (by decide : ¬ ((1 : Int32) = (0 : Int32)))).1) ?_
    show Steps _ _ _ (T9.setTop (mkF m 88 #[vI p1, vI p2, vI p1, vI (p2 &&& (255 : Int32)), vI v1, vI 1, vI 1, vI 1] [])) _
    refine XS.iload X9.here hx rfl (hb hby at_88) rfl ?_
    show Steps _ _ _ (T9.setTop (mkF m 90 #[vI p1, vI p2, vI p1, vI (p2 &&& (255 : Int32)), vI v1, vI 1, vI 1, vI 1] [iI 1])) _
    refine XS.ifNo X9.here hx rfl (hb hby at_90) rfl ((if0 _ _).trans (feq (by decide : ¬ ((1 : Int32) = (0 : Int32)))).1) ?_
    show Steps _ _ _ (T9.setTop (mkF m 93 #[vI p1, vI p2, vI p1, vI (p2 &&& (255 : Int32)), vI v1, vI 1, vI 1, vI 1] [])) _
    refine XS.iconst X9.here hx rfl (hb hby at_93) ?_
    show Steps _ _ _ (T9.setTop (mkF m 94 #[vI p1, vI p2, vI p1, vI (p2 &&& (255 : Int32)), vI v1, vI 1, vI 1, vI 1] [iI 1])) _
    refine XS.goto X9.here hx rfl (pc0 := 94) (pc' := 98) rfl (hb hby at_94) (by decide) (by decide) ?_
    show Steps _ _ _ (T9.setTop (mkF m 98 #[vI p1, vI p2, vI p1, vI (p2 &&& (255 : Int32)), vI v1, vI 1, vI 1, vI 1] [iI 1])) _
    exact retN X9 hx (t := .boolean) Bd.returns (by simp) (hb hby at_98) hr
  · show Q0 Z p1 p2 s_T cl h0 _ T9.heap _
    rw [e9]
    exact ⟨rfl, rfl, rfl⟩
set_option maxRecDepth 65536 in
set_option maxHeartbeats 40000000 in
theorem comes_1 {Post : Tables → Env → Array Value → State → Outcome → State → Prop} (hpost : ∀ tb e args s v u, (limb_1_1.after args s (.returned v) u = true ∧ limb_1_2.after args s (.returned v) u = true ∧ True) → FrameEnd s (.returned v) u (Jvm.fieldLocs frame_1_writes args s ++ Jvm.arrayLocs frame_1_arrays args s ++ Jvm.staticLocs frame_1_statics s) 0 0 → Post tb e args s (.returned v) u) :
    ArmFor flags0 classFile x code maxLocals ret World_1 tables_1 room_1 Calls_1 rest_1 Pre_1 Post := by
  intro l hfl _ _ p e ha hc hk s m args below hf hA hF happ hP
  obtain ⟨hcalls, hrest, hpre⟩ := hP
  obtain ⟨-, -, -, hnamed, -, -, -, hat⟩ := (Spec.applies_iff hf).mp happ
  obtain ⟨hg, hn⟩ := and_e (Cond.before_iff.mp (show (Jvm.Cond.and given_1 narrow_1).before args s = true from hpre))
  obtain ⟨gc, gr0⟩ := and_e hg
  obtain ⟨ga0, gr1⟩ := and_e gr0
  obtain ⟨w0, w1, rfl⟩ : ∃ w0 w1 : Value, args = #[w0, w1] := by
    have hs : args.size = 2 := by simpa [Cond.value, given_1] using gc
    obtain ⟨L⟩ := args
    match L, hs with
    | [w0, w1], _ => exact ⟨w0, w1, rfl⟩
  have hw := fun d (hd : d ∈ tables_1) => atoms_spec (ws := Jvm.Cond.code x code maxLocals ret :: tables_1) hat d (List.mem_cons_of_mem _ hd)
  have hfit : Fit s := fun {y c} hc i hi => by
    obtain ⟨ha, rfl⟩ := Array.getElem?_eq_some_iff.mp hc
    have q := List.all_eq_true.mp ((Array.all_eq_true_iff_forall_mem.mp hF) _ (Array.getElem_mem ha)) i (List.mem_range.mpr hi)
    simpa [Array.getElem?_eq_getElem hi] using q
  obtain ⟨i0, ei0⟩ := is_v ga0
  obtain rfl : w0 = (.int i0) := Option.some.inj ei0
  obtain ⟨i1, ei1⟩ := is_v gr1
  obtain rfl : w1 = (.int i1) := Option.some.inj ei1
  obtain ⟨u0, t0⟩ := and_e hn
  obtain ⟨u1, t1⟩ := and_e t0
  obtain ⟨u2, t2⟩ := and_e t1
  obtain ⟨u3, t3⟩ := and_e t2
  obtain ⟨u4, t4⟩ := and_e t3
  obtain ⟨u5, t5⟩ := and_e t4
  obtain ⟨u6, t6⟩ := and_e t5
  obtain ⟨u7, t7⟩ := and_e t6
  obtain ⟨u8, t8⟩ := and_e t7
  obtain ⟨u9, t9⟩ := and_e t8
  obtain ⟨u10, t10⟩ := and_e t9
  obtain ⟨u11, t11⟩ := and_e t10
  obtain ⟨u12, t12⟩ := and_e t11
  obtain ⟨u13, t13⟩ := and_e t12
  obtain ⟨u14, t14⟩ := and_e t13
  obtain ⟨u15, t15⟩ := and_e t14
  obtain ⟨u16, t16⟩ := and_e t15
  obtain ⟨u17, t17⟩ := and_e t16
  obtain ⟨u18, t18⟩ := and_e t17
  obtain ⟨u19, t19⟩ := and_e t18
  obtain ⟨u20, t20⟩ := and_e t19
  obtain ⟨u21, t21⟩ := and_e t20
  obtain ⟨u22, t22⟩ := and_e t21
  obtain ⟨u23, t23⟩ := and_e t22
  obtain ⟨u24, t24⟩ := and_e t23
  have u25 := t24
  obtain ⟨s_T, evT⟩ := arr_v u0
  obtain ⟨cl, Ar⟩ := Arr.start evT u0
  obtain ⟨hl1, hl2⟩ := own_len evT Ar u1
  have S_T : Sta s s.heap "io/headrace/core/HttpChars" "TCHAR" "[Z" (.ref s_T) := Sta.start evT (Or.inr ⟨(hw _ (List.mem_of_getElem? (i := 2) rfl)), (hw _ (List.mem_of_getElem? (i := 5) rfl))⟩)
  have TB : Tab s s.heap s_T cl .boolean (256 : Int32) := Tab.start hfit Ar (by simp) hl1 hl2 (by decide)
  have hT : ∀ j : Int32, ¬ j < (0 : Int32) → j < (256 : Int32) → atv cl j = own_ref j := by
    intro j h0 h1
    have hin : ¬ (j < 0 ∨ cl.slots.size ≤ j.toNatClampNeg) := inb_of TB.2.1 ⟨h0, h1⟩
    have hi : j.toNatClampNeg < cl.slots.size := Nat.lt_of_not_le fun q => hin (Or.inr q)
    have b0 : 0 ≤ j.toInt := by rw [Int32.lt_iff_toInt_lt, show (0 : Int32).toInt = 0 from rfl] at h0; omega
    have b1 : j.toInt < 256 := by rw [Int32.lt_iff_toInt_lt, show (256 : Int32).toInt = 256 from rfl] at h1; exact h1
    by_cases c0 : j.toInt < 33
    · have qlo : (0 : Nat) ≤ j.toInt := by omega
      have f2 : (33 : Int32) ≤ j ∨ atv cl j = 0 := (own_or (Cond.all_elim evT (Ar.fin (Vm.Alike.refl _)) u2 _ hi)).imp (fun q => gotT (Cond.le_ints (Term.int_eval _) (idx_at h0)) q) (fun q => atv_of (own_elem (idx := [j.toNatClampNeg]) evT (idx_at h0) Ar.1 q))
      have ea : atv cl j = 0 := (f2.resolve_left (by rw [Int32.le_iff_toInt_le, show (33 : Int32).toInt = 33 from rfl]; omega))
      rw [ea]; exact (own_iv 0 33 0 (by decide) (by decide +kernel) j qlo c0).symm
    by_cases c1 : j.toInt < 34
    · have qlo : (33 : Nat) ≤ j.toInt := by omega
      have f3 : atv cl 33 = 1 := atv_of (own_elem evT (Term.int_eval _) Ar.1 u3)
      have ej : j = 33 := Int32.toInt_inj.mp (by rw [show (33 : Int32).toInt = 33 from rfl]; omega)
      have ea : atv cl j = 1 := by rw [ej]; exact f3
      rw [ea]; exact (own_iv 33 1 1 (by decide) (by decide +kernel) j qlo c1).symm
    by_cases c2 : j.toInt < 35
    · have qlo : (34 : Nat) ≤ j.toInt := by omega
      have f4 : atv cl 34 = 0 := atv_of (own_elem evT (Term.int_eval _) Ar.1 u4)
      have ej : j = 34 := Int32.toInt_inj.mp (by rw [show (34 : Int32).toInt = 34 from rfl]; omega)
      have ea : atv cl j = 0 := by rw [ej]; exact f4
      rw [ea]; exact (own_iv 34 1 0 (by decide) (by decide +kernel) j qlo c2).symm
    by_cases c3 : j.toInt < 40
    · have qlo : (35 : Nat) ≤ j.toInt := by omega
      have f5 : j < (35 : Int32) ∨ ((40 : Int32) ≤ j ∨ atv cl j = 1) := (own_or (Cond.all_elim evT (Ar.fin (Vm.Alike.refl _)) u5 _ hi)).imp (fun q => gotT (Cond.lt_ints (idx_at h0) (Term.int_eval _)) q) (fun r => (own_or r).imp (fun q => gotT (Cond.le_ints (Term.int_eval _) (idx_at h0)) q) (fun q => atv_of (own_elem (idx := [j.toNatClampNeg]) evT (idx_at h0) Ar.1 q)))
      have ea : atv cl j = 1 := ((f5.resolve_left (by rw [Int32.lt_iff_toInt_lt, show (35 : Int32).toInt = 35 from rfl]; omega)).resolve_left (by rw [Int32.le_iff_toInt_le, show (40 : Int32).toInt = 40 from rfl]; omega))
      rw [ea]; exact (own_iv 35 5 1 (by decide) (by decide +kernel) j qlo c3).symm
    by_cases c4 : j.toInt < 41
    · have qlo : (40 : Nat) ≤ j.toInt := by omega
      have f6 : atv cl 40 = 0 := atv_of (own_elem evT (Term.int_eval _) Ar.1 u6)
      have ej : j = 40 := Int32.toInt_inj.mp (by rw [show (40 : Int32).toInt = 40 from rfl]; omega)
      have ea : atv cl j = 0 := by rw [ej]; exact f6
      rw [ea]; exact (own_iv 40 1 0 (by decide) (by decide +kernel) j qlo c4).symm
    by_cases c5 : j.toInt < 42
    · have qlo : (41 : Nat) ≤ j.toInt := by omega
      have f7 : atv cl 41 = 0 := atv_of (own_elem evT (Term.int_eval _) Ar.1 u7)
      have ej : j = 41 := Int32.toInt_inj.mp (by rw [show (41 : Int32).toInt = 41 from rfl]; omega)
      have ea : atv cl j = 0 := by rw [ej]; exact f7
      rw [ea]; exact (own_iv 41 1 0 (by decide) (by decide +kernel) j qlo c5).symm
    by_cases c6 : j.toInt < 43
    · have qlo : (42 : Nat) ≤ j.toInt := by omega
      have f8 : atv cl 42 = 1 := atv_of (own_elem evT (Term.int_eval _) Ar.1 u8)
      have ej : j = 42 := Int32.toInt_inj.mp (by rw [show (42 : Int32).toInt = 42 from rfl]; omega)
      have ea : atv cl j = 1 := by rw [ej]; exact f8
      rw [ea]; exact (own_iv 42 1 1 (by decide) (by decide +kernel) j qlo c6).symm
    by_cases c7 : j.toInt < 44
    · have qlo : (43 : Nat) ≤ j.toInt := by omega
      have f9 : atv cl 43 = 1 := atv_of (own_elem evT (Term.int_eval _) Ar.1 u9)
      have ej : j = 43 := Int32.toInt_inj.mp (by rw [show (43 : Int32).toInt = 43 from rfl]; omega)
      have ea : atv cl j = 1 := by rw [ej]; exact f9
      rw [ea]; exact (own_iv 43 1 1 (by decide) (by decide +kernel) j qlo c7).symm
    by_cases c8 : j.toInt < 45
    · have qlo : (44 : Nat) ≤ j.toInt := by omega
      have f10 : atv cl 44 = 0 := atv_of (own_elem evT (Term.int_eval _) Ar.1 u10)
      have ej : j = 44 := Int32.toInt_inj.mp (by rw [show (44 : Int32).toInt = 44 from rfl]; omega)
      have ea : atv cl j = 0 := by rw [ej]; exact f10
      rw [ea]; exact (own_iv 44 1 0 (by decide) (by decide +kernel) j qlo c8).symm
    by_cases c9 : j.toInt < 46
    · have qlo : (45 : Nat) ≤ j.toInt := by omega
      have f11 : atv cl 45 = 1 := atv_of (own_elem evT (Term.int_eval _) Ar.1 u11)
      have ej : j = 45 := Int32.toInt_inj.mp (by rw [show (45 : Int32).toInt = 45 from rfl]; omega)
      have ea : atv cl j = 1 := by rw [ej]; exact f11
      rw [ea]; exact (own_iv 45 1 1 (by decide) (by decide +kernel) j qlo c9).symm
    by_cases c10 : j.toInt < 47
    · have qlo : (46 : Nat) ≤ j.toInt := by omega
      have f12 : atv cl 46 = 1 := atv_of (own_elem evT (Term.int_eval _) Ar.1 u12)
      have ej : j = 46 := Int32.toInt_inj.mp (by rw [show (46 : Int32).toInt = 46 from rfl]; omega)
      have ea : atv cl j = 1 := by rw [ej]; exact f12
      rw [ea]; exact (own_iv 46 1 1 (by decide) (by decide +kernel) j qlo c10).symm
    by_cases c11 : j.toInt < 48
    · have qlo : (47 : Nat) ≤ j.toInt := by omega
      have f13 : atv cl 47 = 0 := atv_of (own_elem evT (Term.int_eval _) Ar.1 u13)
      have ej : j = 47 := Int32.toInt_inj.mp (by rw [show (47 : Int32).toInt = 47 from rfl]; omega)
      have ea : atv cl j = 0 := by rw [ej]; exact f13
      rw [ea]; exact (own_iv 47 1 0 (by decide) (by decide +kernel) j qlo c11).symm
    by_cases c12 : j.toInt < 58
    · have qlo : (48 : Nat) ≤ j.toInt := by omega
      have f14 : j < (48 : Int32) ∨ ((58 : Int32) ≤ j ∨ atv cl j = 1) := (own_or (Cond.all_elim evT (Ar.fin (Vm.Alike.refl _)) u14 _ hi)).imp (fun q => gotT (Cond.lt_ints (idx_at h0) (Term.int_eval _)) q) (fun r => (own_or r).imp (fun q => gotT (Cond.le_ints (Term.int_eval _) (idx_at h0)) q) (fun q => atv_of (own_elem (idx := [j.toNatClampNeg]) evT (idx_at h0) Ar.1 q)))
      have ea : atv cl j = 1 := ((f14.resolve_left (by rw [Int32.lt_iff_toInt_lt, show (48 : Int32).toInt = 48 from rfl]; omega)).resolve_left (by rw [Int32.le_iff_toInt_le, show (58 : Int32).toInt = 58 from rfl]; omega))
      rw [ea]; exact (own_iv 48 10 1 (by decide) (by decide +kernel) j qlo c12).symm
    by_cases c13 : j.toInt < 65
    · have qlo : (58 : Nat) ≤ j.toInt := by omega
      have f15 : j < (58 : Int32) ∨ ((65 : Int32) ≤ j ∨ atv cl j = 0) := (own_or (Cond.all_elim evT (Ar.fin (Vm.Alike.refl _)) u15 _ hi)).imp (fun q => gotT (Cond.lt_ints (idx_at h0) (Term.int_eval _)) q) (fun r => (own_or r).imp (fun q => gotT (Cond.le_ints (Term.int_eval _) (idx_at h0)) q) (fun q => atv_of (own_elem (idx := [j.toNatClampNeg]) evT (idx_at h0) Ar.1 q)))
      have ea : atv cl j = 0 := ((f15.resolve_left (by rw [Int32.lt_iff_toInt_lt, show (58 : Int32).toInt = 58 from rfl]; omega)).resolve_left (by rw [Int32.le_iff_toInt_le, show (65 : Int32).toInt = 65 from rfl]; omega))
      rw [ea]; exact (own_iv 58 7 0 (by decide) (by decide +kernel) j qlo c13).symm
    by_cases c14 : j.toInt < 91
    · have qlo : (65 : Nat) ≤ j.toInt := by omega
      have f16 : j < (65 : Int32) ∨ ((91 : Int32) ≤ j ∨ atv cl j = 1) := (own_or (Cond.all_elim evT (Ar.fin (Vm.Alike.refl _)) u16 _ hi)).imp (fun q => gotT (Cond.lt_ints (idx_at h0) (Term.int_eval _)) q) (fun r => (own_or r).imp (fun q => gotT (Cond.le_ints (Term.int_eval _) (idx_at h0)) q) (fun q => atv_of (own_elem (idx := [j.toNatClampNeg]) evT (idx_at h0) Ar.1 q)))
      have ea : atv cl j = 1 := ((f16.resolve_left (by rw [Int32.lt_iff_toInt_lt, show (65 : Int32).toInt = 65 from rfl]; omega)).resolve_left (by rw [Int32.le_iff_toInt_le, show (91 : Int32).toInt = 91 from rfl]; omega))
      rw [ea]; exact (own_iv 65 26 1 (by decide) (by decide +kernel) j qlo c14).symm
    by_cases c15 : j.toInt < 92
    · have qlo : (91 : Nat) ≤ j.toInt := by omega
      have f17 : atv cl 91 = 0 := atv_of (own_elem evT (Term.int_eval _) Ar.1 u17)
      have ej : j = 91 := Int32.toInt_inj.mp (by rw [show (91 : Int32).toInt = 91 from rfl]; omega)
      have ea : atv cl j = 0 := by rw [ej]; exact f17
      rw [ea]; exact (own_iv 91 1 0 (by decide) (by decide +kernel) j qlo c15).symm
    by_cases c16 : j.toInt < 93
    · have qlo : (92 : Nat) ≤ j.toInt := by omega
      have f18 : atv cl 92 = 0 := atv_of (own_elem evT (Term.int_eval _) Ar.1 u18)
      have ej : j = 92 := Int32.toInt_inj.mp (by rw [show (92 : Int32).toInt = 92 from rfl]; omega)
      have ea : atv cl j = 0 := by rw [ej]; exact f18
      rw [ea]; exact (own_iv 92 1 0 (by decide) (by decide +kernel) j qlo c16).symm
    by_cases c17 : j.toInt < 94
    · have qlo : (93 : Nat) ≤ j.toInt := by omega
      have f19 : atv cl 93 = 0 := atv_of (own_elem evT (Term.int_eval _) Ar.1 u19)
      have ej : j = 93 := Int32.toInt_inj.mp (by rw [show (93 : Int32).toInt = 93 from rfl]; omega)
      have ea : atv cl j = 0 := by rw [ej]; exact f19
      rw [ea]; exact (own_iv 93 1 0 (by decide) (by decide +kernel) j qlo c17).symm
    by_cases c18 : j.toInt < 123
    · have qlo : (94 : Nat) ≤ j.toInt := by omega
      have f20 : j < (94 : Int32) ∨ ((123 : Int32) ≤ j ∨ atv cl j = 1) := (own_or (Cond.all_elim evT (Ar.fin (Vm.Alike.refl _)) u20 _ hi)).imp (fun q => gotT (Cond.lt_ints (idx_at h0) (Term.int_eval _)) q) (fun r => (own_or r).imp (fun q => gotT (Cond.le_ints (Term.int_eval _) (idx_at h0)) q) (fun q => atv_of (own_elem (idx := [j.toNatClampNeg]) evT (idx_at h0) Ar.1 q)))
      have ea : atv cl j = 1 := ((f20.resolve_left (by rw [Int32.lt_iff_toInt_lt, show (94 : Int32).toInt = 94 from rfl]; omega)).resolve_left (by rw [Int32.le_iff_toInt_le, show (123 : Int32).toInt = 123 from rfl]; omega))
      rw [ea]; exact (own_iv 94 29 1 (by decide) (by decide +kernel) j qlo c18).symm
    by_cases c19 : j.toInt < 124
    · have qlo : (123 : Nat) ≤ j.toInt := by omega
      have f21 : atv cl 123 = 0 := atv_of (own_elem evT (Term.int_eval _) Ar.1 u21)
      have ej : j = 123 := Int32.toInt_inj.mp (by rw [show (123 : Int32).toInt = 123 from rfl]; omega)
      have ea : atv cl j = 0 := by rw [ej]; exact f21
      rw [ea]; exact (own_iv 123 1 0 (by decide) (by decide +kernel) j qlo c19).symm
    by_cases c20 : j.toInt < 125
    · have qlo : (124 : Nat) ≤ j.toInt := by omega
      have f22 : atv cl 124 = 1 := atv_of (own_elem evT (Term.int_eval _) Ar.1 u22)
      have ej : j = 124 := Int32.toInt_inj.mp (by rw [show (124 : Int32).toInt = 124 from rfl]; omega)
      have ea : atv cl j = 1 := by rw [ej]; exact f22
      rw [ea]; exact (own_iv 124 1 1 (by decide) (by decide +kernel) j qlo c20).symm
    by_cases c21 : j.toInt < 126
    · have qlo : (125 : Nat) ≤ j.toInt := by omega
      have f23 : atv cl 125 = 0 := atv_of (own_elem evT (Term.int_eval _) Ar.1 u23)
      have ej : j = 125 := Int32.toInt_inj.mp (by rw [show (125 : Int32).toInt = 125 from rfl]; omega)
      have ea : atv cl j = 0 := by rw [ej]; exact f23
      rw [ea]; exact (own_iv 125 1 0 (by decide) (by decide +kernel) j qlo c21).symm
    by_cases c22 : j.toInt < 127
    · have qlo : (126 : Nat) ≤ j.toInt := by omega
      have f24 : atv cl 126 = 1 := atv_of (own_elem evT (Term.int_eval _) Ar.1 u24)
      have ej : j = 126 := Int32.toInt_inj.mp (by rw [show (126 : Int32).toInt = 126 from rfl]; omega)
      have ea : atv cl j = 1 := by rw [ej]; exact f24
      rw [ea]; exact (own_iv 126 1 1 (by decide) (by decide +kernel) j qlo c22).symm
    have c23 : j.toInt < 256 := b1
    have qlo : (127 : Nat) ≤ j.toInt := by omega
    have f25 : j < (127 : Int32) ∨ atv cl j = 0 := (own_or (Cond.all_elim evT (Ar.fin (Vm.Alike.refl _)) u25 _ hi)).imp (fun q => gotT (Cond.lt_ints (idx_at h0) (Term.int_eval _)) q) (fun q => atv_of (own_elem (idx := [j.toNatClampNeg]) evT (idx_at h0) Ar.1 q))
    have ea : atv cl j = 0 := (f25.resolve_left (by rw [Int32.lt_iff_toInt_lt, show (127 : Int32).toInt = 127 from rfl]; omega))
    rw [ea]; exact (own_iv 127 129 0 (by decide) (by decide +kernel) j qlo c23).symm
  obtain ⟨n, o, h1, h2, h3, _, L, rfl, Qv, hq⟩ := rm0 l s _ hw tables_1 i0 i1 s_T cl s.heap S_T TB hT p e ha hc hk s m _ below hf ((Spec.applies_iff_loose hf).mp happ).1 ⟨rfl, State.Warmed39.refl s, rfl⟩ trivial
  obtain ⟨rfl, rfl, -⟩ := Qv
  have N := Fr.nil s.heap.size
  refine ⟨n, _, h1, h2, h3, hpost _ _ _ _ _ _ ⟨Cond.after_iff.mpr rfl, Cond.after_iff.mpr (eq_i res_at (Term.int_eval (1)) rfl), trivial⟩ ⟨hq.1, hq.2.1, (hq.2.2.sift fun y hy => Or.inr (N y hy)).mono (by decide) (by decide)⟩⟩
theorem main_1_1 : Claimed_1_1 := comes_1 fun _ _ _ _ _ _ h hF => ⟨h.1, hF⟩
theorem main_1_2 : Claimed_1_2 := comes_1 fun _ _ _ _ _ _ h hF => ⟨h.2.1, hF⟩
end Jvm.Pilot.@@N@@
namespace Jvm.Pilot.@@N@@
open Jvm Jvm.ClassFile Sem Op Lib Jvm.Free Jvm.Stand Jvm.Pilot.@@N@@.Jvm.D
/-! MADE BY PROGRAM (witnessworld.py) out of the Statement's table words and the real class files: 11 classes; the members and pool entries that the words name. The judged class is class 1, her method 2. -/
namespace start1
open Jvm.ClassFile
def u (s : String) : CpInfo := .utf8 (stringToUtf16 s)
/-- a pool by its gaps: so many unusable entries, then the entry; so many at the end -/
def gap : Nat → List CpInfo → List CpInfo
  | 0, r => r
  | n + 1, r => .unusable :: gap n r
def poolList (es : List (Nat × CpInfo)) (last : Nat) : List CpInfo := es.foldr (fun e r => gap e.1 (e.2 :: r)) (gap last [])
def pool (es : List (Nat × CpInfo)) (last : Nat) : Array CpInfo := ⟨poolList es last⟩
def fileOf (pool : Array CpInfo) (this : Nat) (attrs : Array Attribute := #[]) (ms : Array MethodInfo := #[]) (fl : Nat := 33) (sup : Nat := 0) (ifs : Array Nat := #[]) (fds : Array FieldInfo := #[]) : ClassFile where
  minorVersion := 0
  majorVersion := 65
  constantPool := pool
  accessFlags := fl
  thisClass := this
  superClass := sup
  interfaces := ifs
  fields := fds
  methods := ms
  attributes := attrs
def plain (name : String) (sup : Option ClassId) : Class where
  name := name
  kind := .ordinary
  loader := none
  accessFlags := 33
  super := sup
  interfaces := #[]
  cf := none
  fields := #[]
  methods := #[]
  instanceTypes := #[]
  staticTypes := #[]
  resolved := #[]
  callSites := []
  init := .initialized
  statics := none
  mirror := none

def pool0 : Array CpInfo := pool [(5, u "<init>"), (0, u "()V"), (1, .class_ 10), (1, u "java/lang/Object")] 113

def k0m0 : Method := { name := "<init>", desc := "()V", sig := { parameters := [], returnType := none }, accessFlags := 1, code := none }
/-- java/lang/Object -/
def k0 : Class := { plain "java/lang/Object" none with
  accessFlags := 33
  interfaces := #[]
  cf := some (fileOf pool0 8 #[] #[{ accessFlags := 1, nameIndex := 5, descriptorIndex := 6, attributes := #[] }] 33 0 #[] #[])
  fields := #[]
  methods := #[k0m0]
  instanceTypes := #[]
  staticTypes := #[]
  resolved := Array.replicate 124 none
  statics := none }

def pool1 : Array CpInfo := pool [(2, .class_ 4), (1, u "java/lang/Object"), (0, u "<init>"), (0, u "()V"), (0, .methodref 8 9), (0, .class_ 10), (0, .nameAndType 11 12), (0, u "io/headrace/core/HttpChars"), (0, u "isTchar"), (0, u "(I)Z"), (0, .methodref 14 15), (0, .class_ 16), (0, .nameAndType 17 12), (0, u "io/headrace/core/HttpCharsIsTcharPinLaw"), (0, u "ref"), (3, u "law"), (0, u "(II)Z")] 2

def k1m0 : Method := { name := "<init>", desc := "()V", sig := { parameters := [], returnType := none }, accessFlags := 2, code := none }
def k1c1 : Code := { maxStack := 2, maxLocals := 1, code := method_2_code, exceptionTable := #[], attributes := #[] }
def k1m1 : Method := { name := "ref", desc := "(I)Z", sig := { parameters := [.int], returnType := some .boolean }, accessFlags := 10, code := some k1c1 }
def k1c2 : Code := { maxStack := 2, maxLocals := 8, code := code, exceptionTable := #[], attributes := #[] }
def k1m2 : Method := { name := "law", desc := "(II)Z", sig := { parameters := [.int, .int], returnType := some .boolean }, accessFlags := 9, code := some k1c2 }
/-- io/headrace/core/HttpCharsIsTcharPinLaw -/
def k1 : Class := { plain "io/headrace/core/HttpCharsIsTcharPinLaw" (some 0) with
  accessFlags := 49
  interfaces := #[]
  cf := some (fileOf pool1 14 #[] #[{ accessFlags := 2, nameIndex := 5, descriptorIndex := 6, attributes := #[] }, { accessFlags := 10, nameIndex := 17, descriptorIndex := 12, attributes := #[] }, { accessFlags := 9, nameIndex := 21, descriptorIndex := 22, attributes := #[] }] 49 2 #[] #[])
  fields := #[]
  methods := #[k1m0, k1m1, k1m2]
  instanceTypes := #[]
  staticTypes := #[]
  resolved := Array.replicate 25 none
  statics := none }

def pool2 : Array CpInfo := pool [(2, .class_ 4), (1, u "java/lang/Object"), (0, u "<init>"), (0, u "()V"), (0, .fieldref 8 9), (0, .class_ 10), (0, .nameAndType 11 12), (0, u "io/headrace/core/HttpChars"), (0, u "TCHAR"), (0, u "[Z"), (12, u "isTchar"), (0, u "(I)Z")] 34

def k2m0 : Method := { name := "<init>", desc := "()V", sig := { parameters := [], returnType := none }, accessFlags := 2, code := none }
def k2c1 : Code := { maxStack := 2, maxLocals := 1, code := prog_7_method_2_code, exceptionTable := #[], attributes := #[] }
def k2m1 : Method := { name := "isTchar", desc := "(I)Z", sig := { parameters := [.int], returnType := some .boolean }, accessFlags := 9, code := some k2c1 }
/-- io/headrace/core/HttpChars -/
def k2 : Class := { plain "io/headrace/core/HttpChars" (some 0) with
  accessFlags := 49
  interfaces := #[]
  cf := some (fileOf pool2 8 #[] #[{ accessFlags := 2, nameIndex := 5, descriptorIndex := 6, attributes := #[] }, { accessFlags := 9, nameIndex := 25, descriptorIndex := 26, attributes := #[] }] 49 2 #[] #[{ accessFlags := 26, nameIndex := 11, descriptorIndex := 12, attributes := #[] }])
  fields := #[{ name := "TCHAR", type := (.array .boolean), accessFlags := 26, slot := 0, constantValue := 0 }]
  methods := #[k2m0, k2m1]
  instanceTypes := #[]
  staticTypes := #[(.array .boolean)]
  resolved := Array.replicate 61 none
  statics := some 0 }

def pool3 : Array CpInfo := pool [(1, u "java/lang/Cloneable"), (0, .class_ 1), (0, u "java/lang/Object"), (0, .class_ 3)] 3

/-- java/lang/Cloneable -/
def k3 : Class := { plain "java/lang/Cloneable" (some 0) with
  accessFlags := 1537
  interfaces := #[]
  cf := some (fileOf pool3 2 #[] #[] 1537 4 #[] #[])
  fields := #[]
  methods := #[]
  instanceTypes := #[]
  staticTypes := #[]
  resolved := Array.replicate 8 none
  statics := none }

def pool4 : Array CpInfo := pool [(1, u "java/io/Serializable"), (0, .class_ 1), (0, u "java/lang/Object"), (0, .class_ 3)] 3

/-- java/io/Serializable -/
def k4 : Class := { plain "java/io/Serializable" (some 0) with
  accessFlags := 1537
  interfaces := #[]
  cf := some (fileOf pool4 2 #[] #[] 1537 4 #[] #[])
  fields := #[]
  methods := #[]
  instanceTypes := #[]
  staticTypes := #[]
  resolved := Array.replicate 8 none
  statics := none }

/-- the primitive boolean -/
def k5 : Class := { plain "boolean" none with kind := .primitive 'Z', accessFlags := 0x411 }
/-- [Z -/
def k6 : Class := { plain "[Z" (some 0) with kind := .array 5 .boolean, interfaces := #[3, 4], accessFlags := 1041 }

/-- the primitive byte -/
def k7 : Class := { plain "byte" none with kind := .primitive 'B', accessFlags := 0x411 }
/-- [B -/
def k8 : Class := { plain "[B" (some 0) with kind := .array 7 .byte, interfaces := #[3, 4], accessFlags := 1041 }

/-- the primitive int -/
def k9 : Class := { plain "int" none with kind := .primitive 'I', accessFlags := 0x411 }
/-- [I -/
def k10 : Class := { plain "[I" (some 0) with kind := .array 9 .int, interfaces := #[3, 4], accessFlags := 1041 }

def heap : Heap := #[{ cls := 2, slots := #[.ref 1], vm := .statics 2 },
  { cls := 6, slots := #[.int 0, .int 0, .int 0, .int 0, .int 0, .int 0, .int 0, .int 0, .int 0, .int 0, .int 0, .int 0, .int 0, .int 0, .int 0, .int 0, .int 0, .int 0, .int 0, .int 0, .int 0, .int 0, .int 0, .int 0, .int 0, .int 0, .int 0, .int 0, .int 0, .int 0, .int 0, .int 0, .int 0, .int 1, .int 0, .int 1, .int 1, .int 1, .int 1, .int 1, .int 0, .int 0, .int 1, .int 1, .int 0, .int 1, .int 1, .int 0, .int 1, .int 1, .int 1, .int 1, .int 1, .int 1, .int 1, .int 1, .int 1, .int 1, .int 0, .int 0, .int 0, .int 0, .int 0, .int 0, .int 0, .int 1, .int 1, .int 1, .int 1, .int 1, .int 1, .int 1, .int 1, .int 1, .int 1, .int 1, .int 1, .int 1, .int 1, .int 1, .int 1, .int 1, .int 1, .int 1, .int 1, .int 1, .int 1, .int 1, .int 1, .int 1, .int 1, .int 0, .int 0, .int 0, .int 1, .int 1, .int 1, .int 1, .int 1, .int 1, .int 1, .int 1, .int 1, .int 1, .int 1, .int 1, .int 1, .int 1, .int 1, .int 1, .int 1, .int 1, .int 1, .int 1, .int 1, .int 1, .int 1, .int 1, .int 1, .int 1, .int 1, .int 1, .int 1, .int 0, .int 1, .int 0, .int 1, .int 0, .int 0, .int 0, .int 0, .int 0, .int 0, .int 0, .int 0, .int 0, .int 0, .int 0, .int 0, .int 0, .int 0, .int 0, .int 0, .int 0, .int 0, .int 0, .int 0, .int 0, .int 0, .int 0, .int 0, .int 0, .int 0, .int 0, .int 0, .int 0, .int 0, .int 0, .int 0, .int 0, .int 0, .int 0, .int 0, .int 0, .int 0, .int 0, .int 0, .int 0, .int 0, .int 0, .int 0, .int 0, .int 0, .int 0, .int 0, .int 0, .int 0, .int 0, .int 0, .int 0, .int 0, .int 0, .int 0, .int 0, .int 0, .int 0, .int 0, .int 0, .int 0, .int 0, .int 0, .int 0, .int 0, .int 0, .int 0, .int 0, .int 0, .int 0, .int 0, .int 0, .int 0, .int 0, .int 0, .int 0, .int 0, .int 0, .int 0, .int 0, .int 0, .int 0, .int 0, .int 0, .int 0, .int 0, .int 0, .int 0, .int 0, .int 0, .int 0, .int 0, .int 0, .int 0, .int 0, .int 0, .int 0, .int 0, .int 0, .int 0, .int 0, .int 0, .int 0, .int 0, .int 0, .int 0, .int 0, .int 0, .int 0, .int 0, .int 0, .int 0, .int 0, .int 0, .int 0, .int 0, .int 0, .int 0, .int 0, .int 0, .int 0, .int 0, .int 0, .int 0, .int 0, .int 0, .int 0, .int 0], vm := .none }]
def classes : Array Class := #[k0, k1, k2, k3, k4, k5, k6, k7, k8, k9, k10]
def interned : List (Array UInt16 × Addr) := []
def slotsUsed : Nat := 257
def theMethod : MethodId := ⟨1, 2⟩
def args0 : Array Value := #[.int 5, .int 300]
def aboutOver (below : List Frame) : State where
  vm := { classes := classes, interned := interned.toArray }
  heap := heap
  slotsUsed := slotsUsed
  threads := #[{ frames := .invoking theMethod args0 :: below }]
def below0 : List Frame := [.native { method := ⟨0, 0⟩, args := #[] }]
def about1 : State := aboutOver below0
def p0 : Program := .bare "" "" ""
def e0 : Env := launch0.env 0 0 0
theorem w_frames : about1.frames = Frame.invoking theMethod args0 :: below0 := rfl
set_option maxRecDepth 65536 in
theorem w_args : argsFit about1.vm theMethod args0 = true := by decide +kernel
set_option maxRecDepth 65536 in
theorem w_heap : heapFits about1 = true := by decide +kernel
set_option maxRecDepth 65536 in
theorem w_runnable : about1.curStatus? = some .runnable := by decide +kernel
set_option maxRecDepth 65536 in
theorem w_alone : about1.alone = true := by decide +kernel
set_option maxRecDepth 65536 in
theorem w_named : about1.methodNamed? x = some theMethod := by decide +kernel
set_option maxRecDepth 65536 in
theorem w_hears : about1.hears theMethod below0 = true := by decide +kernel
set_option maxRecDepth 65536 in
theorem w_ripe : about1.ripe theMethod args0 below0 = true := by decide +kernel
theorem w_running : about1.status = .running := rfl
set_option maxRecDepth 65536 in
theorem w_room : about1.hasRoom e0.platform room_1 = true :=
  launch0.hasRoom_least _ room_1 (by decide +kernel) (by decide +kernel) (by decide +kernel) (by decide +kernel) (by decide +kernel) (by decide +kernel)
theorem allAtoms_all (ts : List Jvm.Cond) (a : Array Jvm.Value) (st : Jvm.State) : (allAtoms ts).before a st = ts.all (fun c => c.before a st) := by
  induction ts with
  | nil => rfl
  | cons c t ih =>
    show (Jvm.Cond.and c (allAtoms t)).before a st = _
    rw [Jvm.Cond.before_and, ih, List.all_cons]
def words1 : List Jvm.Cond := Jvm.Cond.code x code maxLocals ret :: tables_1
/-- a 'code' word, met by the world's own term for the bytes: nothing is compared byte by byte -/
theorem code_word {y : MethodName} {bytes : ByteArray} {mx : Nat} {rt : Option FieldType} {a : Array Value} {s : State} {m : MethodId} {meth : Method} {c : Code} (h1 : s.methodNamed? y = some m) (h2 : s.vm.method? m = some meth) (h3 : meth.code = some c) (h4 : c.code = bytes)
    (h5 : (c.maxLocals == mx && c.exceptionTable.isEmpty && decide (c.maxStack ≤ mostOperands) && decide (meth.sig.returnType = rt) && !meth.locks && decide (parseMethodDescriptor y.desc = some meth.sig)) = true) : (Jvm.Cond.code y bytes mx rt).before a s = true := by
  simp only [Bool.and_eq_true, beq_iff_eq, Bool.not_eq_true', decide_eq_true_eq] at h5
  obtain ⟨⟨⟨⟨⟨g1, g2⟩, g3⟩, g4⟩, g5⟩, g6⟩ := h5
  simp [Cond.before, Cond.holds, Cond.value, h1, h2, h3, h4, g1, g2, g3, g4, g5, g6]
def isCode : Jvm.Cond → Bool
  | .code _ _ _ _ => true
  | _ => false
theorem all_split {L : List Jvm.Cond} {P : Jvm.Cond → Bool} (h1 : L.all (fun c => isCode c || P c) = true) (h2 : ∀ c ∈ L.filter isCode, P c = true) : L.all P = true := by
  refine List.all_eq_true.mpr fun c hc => ?_
  have h := List.all_eq_true.mp h1 c hc
  rcases Bool.eq_false_or_eq_true (isCode c) with hi | hi
  · exact h2 c (List.mem_filter.mpr ⟨hc, hi⟩)
  · simpa [hi] using h
set_option maxRecDepth 65536 in
theorem w_c0 : (Jvm.Cond.code x code maxLocals ret).before args0 about1 = true := code_word (m := ⟨1, 2⟩) (meth := k1m2) (c := k1c2) (by decide +kernel) rfl rfl rfl (by decide +kernel)
set_option maxRecDepth 65536 in
theorem w_c1 : (Jvm.Cond.code ({ cls := "io/headrace/core/HttpChars", name := "isTchar", desc := "(I)Z" } : Jvm.MethodName) prog_7_method_2_code (1 : Nat) (Option.some Jvm.ClassFile.FieldType.boolean)).before args0 about1 = true := code_word (m := ⟨2, 1⟩) (meth := k2m1) (c := k2c1) (by decide +kernel) rfl rfl rfl (by decide +kernel)
set_option maxRecDepth 65536 in
theorem w_c2 : (Jvm.Cond.code ({ cls := "io/headrace/core/HttpCharsIsTcharPinLaw", name := "ref", desc := "(I)Z" } : Jvm.MethodName) method_2_code (1 : Nat) (Option.some Jvm.ClassFile.FieldType.boolean)).before args0 about1 = true := code_word (m := ⟨1, 1⟩) (meth := k1m1) (c := k1c1) (by decide +kernel) rfl rfl rfl (by decide +kernel)
def codes1 : List Jvm.Cond := [Jvm.Cond.code x code maxLocals ret, Jvm.Cond.code ({ cls := "io/headrace/core/HttpChars", name := "isTchar", desc := "(I)Z" } : Jvm.MethodName) prog_7_method_2_code (1 : Nat) (Option.some Jvm.ClassFile.FieldType.boolean), Jvm.Cond.code ({ cls := "io/headrace/core/HttpCharsIsTcharPinLaw", name := "ref", desc := "(I)Z" } : Jvm.MethodName) method_2_code (1 : Nat) (Option.some Jvm.ClassFile.FieldType.boolean)]
set_option maxRecDepth 65536 in
theorem codes_eq : words1.filter isCode = codes1 := rfl
theorem w_codes : ∀ c ∈ words1.filter isCode, c.before args0 about1 = true := by
  rw [codes_eq]
  intro c hc
  simp only [codes1, List.mem_cons, List.not_mem_nil, or_false] at hc
  rcases hc with rfl | rfl | rfl
  · exact w_c0
  · exact w_c1
  · exact w_c2
set_option maxRecDepth 65536 in
theorem w_t1 : words1.all (fun c => isCode c || c.before args0 about1) = true := by decide +kernel
theorem w_tables : (allAtoms (Jvm.Cond.code x code maxLocals ret :: tables_1)).before args0 about1 = true := by
  rw [allAtoms_all]
  show words1.all (fun c => c.before args0 about1) = true
  refine all_split ?_ w_codes
  rw [w_t1]
set_option maxRecDepth 65536 in
theorem w_case : (Jvm.Cond.and given_1 narrow_1).before args0 about1 = true := by decide +kernel
theorem w_applies : (headSpec (Jvm.Cond.code x code maxLocals ret :: tables_1) room_1).applies x e0.platform about1 = true :=
  (Spec.applies_iff w_frames).mpr ⟨w_running, w_runnable, w_alone, w_named, w_hears, w_ripe, w_room, w_tables⟩
theorem atStart : AtStart classFile x code maxLocals ret World_1 tables_1 room_1 Calls_1 rest_1 Pre_1 launch0 p0 e0 about1 theMethod args0 below0 :=
  ⟨lists_1, trivial, launch0.admits_env _ _ _, launch0.least_env, fairChoices_fair.cas, fairChoices_fair.clock, w_frames, w_args, w_heap, w_applies, trivial, trivial, w_case⟩
end start1
theorem witness_1 : WitnessClaimed_1 := ⟨start1.p0, start1.e0, start1.about1, start1.theMethod, start1.args0, start1.below0, start1.atStart⟩
end Jvm.Pilot.@@N@@
