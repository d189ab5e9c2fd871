import JvmDerived
import JvmDerived.Pilot.@@N@@Statement
import JvmDerived.Pilot.@@N@@Code
set_option linter.unusedVariables false
set_option linter.unusedSimpArgs false
namespace Jvm.RoadKit
open Sem ClassFile Op Lib Jvm.Stand Jvm.Free Jvm.LawKit
section New
variable {p : Program} {l : Launch} {e : Env} {R : Room} {s : State} {m : MethodId} {args : Array Value} {below : List Frame} {meth : Method} {c : Code} {T : State} {locs : List Loc} {cells slots : Nat}
theorem retI (X : Stand p l e R s m args below meth c T locs cells slots) (hx : p.tables.exec = Jvm.exec) {pc : Nat} {Ls : Array Slot} {z : Int32} {rest : List Value} (hret : meth.sig.returnType = some .int) (hd : decode c.code pc = .ok (.ireturn, 1)) {fs : List Frame}
    (hl : ∀ (f : JFrame) (acts : List Action), f.method = m → f.locked = none → f.entered = [] → (doReturn e (T.setTop f) acts (some (.int z))).1 = T.setFrames fs) : Steps p.tables e below (T.setTop (mkF m pc Ls (.int z :: rest))) (T.setFrames fs) := by
  have hm' : T.vm.method? m = some meth := X.method'
  have hn : narrow .int (.int z) = .int z := rfl
  show Steps p.tables e below (T.setTop { method := m, pc := pc, locals := Ls, stack := _ :: rest, locked := none }) _
  jvm_step X.here [X.here.top, hx, hd, hm', hret, hn]
  first | (intro acts; rw [hl _ acts rfl rfl rfl]) | rw [hl _ _ rfl rfl rfl]
  exact Steps.refl _
abbrev vI (x : Int32) : Slot := .val (.int x)
abbrev vJ (x : Int64) : Slot := .val (.long x)
abbrev vR (x : Addr) : Slot := .val (.ref x)
abbrev iI (x : Int32) : Value := .int x
abbrev iJ (x : Int64) : Value := .long x
abbrev iR (x : Addr) : Value := .ref x
/-- from one frame to another over the same heap -/
def own_Mid (X : Stand p l e R s m args below meth c T locs cells slots) (h : Heap) (F F' : JFrame) : Prop :=
  ∃ T', Stand p l e R s m args below meth c T' locs cells slots ∧ T'.heap = h ∧ ∀ t, Steps p.tables e below (T'.setTop F') t → Steps p.tables e below (T.setTop F) t
end New
end Jvm.RoadKit
namespace Jvm.Pilot.@@N@@
open Jvm Jvm.ClassFile Sem Op Lib Jvm.Free Jvm.Stand Jvm.LawKit Jvm.RoadKit Bundle Jvm.Pilot.@@N@@.Jvm.D
theorem pd_0 : parseMethodDescriptor "(IIII)B" = some ⟨[.int, .int, .int, .int], some .byte⟩ := by decide +kernel
theorem pd_1 : parseMethodDescriptor "([BII)Z" = some ⟨[(.array .byte), .int, .int], some .boolean⟩ := by decide +kernel

theorem own_eqInt {args : Array Value} {s : State} {idx : List Nat} {t : Term} {k : Int32} {x : Value} (e1 : t.eval args s none idx s = some x) (h : (Jvm.Cond.eq t (Term.int k)).value args s none s idx = some true) : x = .int k := by
  have e2 : (Term.int k).eval args s none idx s = some (.int k) := Term.int_eval k
  simp only [Cond.value, e1, e2] at h
  cases x <;> simp at h
  rw [h]
theorem own_len {args : Array Value} {s : State} {t : Term} {a : Addr} {cl : Cell} {ty : FieldType} {n : Int32} (ht : t.eval args s none [] s = some (.ref a)) (A : Arr s s.heap a cl ty) (h : (Jvm.Cond.eq (Term.length t) (Term.int n)).value args s none s [] = some true) : cl.slots.size < 2 ^ 31 ∧ cl.slots.size.toInt32 = n := by
  obtain ⟨x, y, e1, e2, -, -⟩ := cmp_v (Or.inl h)
  have hx := own_eqInt e1 h
  have ha : s.arrayAt? a = some cl := A.fin (Vm.Alike.refl _)
  by_cases hl : cl.slots.size < 2 ^ 31
  · have e3 := len_f (first := s) (o := none) (idx := []) ht ha hl
    have e4 := Option.some.inj (e3.symm.trans e1)
    rw [hx] at e4
    exact ⟨hl, Value.int.inj e4⟩
  · simp [Term.eval, ht, ha, hl] at e1
theorem own_elem {args : Array Value} {s : State} {idx : List Nat} {t k : Term} {a : Addr} {cl : Cell} {j b : Int32} (ht : t.eval args s none idx s = some (.ref a)) (hj : k.eval args s none idx s = some (.int j)) (hc : s.heap[a]? = some cl) (h : (Jvm.Cond.eq (Term.elem t k) (Term.int b)).value args s none s idx = some true) : cl.slots[j.toNatClampNeg]? = some (.int b) := by
  obtain ⟨x, y, e1, e2, -, -⟩ := cmp_v (Or.inl h)
  have hx := own_eqInt e1 h
  rw [← hx]
  exact (elem_in e1 ht hj hc).2
theorem own_or {args : Array Value} {s : State} {idx : List Nat} {c d : Jvm.Cond} (h : (Jvm.Cond.or c d).value args s none s idx = some true) : c.value args s none s idx = some true ∨ d.value args s none s idx = some true := by
  cases hc : c.value args s none s idx with
  | none => simp [Cond.value, hc] at h
  | some b =>
    cases b
    · rw [Cond.or_of_right hc] at h; exact Or.inr h
    · exact Or.inl rfl

theorem own_rem (x y : Int32) (d : Int) (hy : y.toInt = d) (hd : 0 < d) : 0 ≤ ((x &&& 2147483647) % y).toInt ∧ ((x &&& 2147483647) % y).toInt < d := by
  have h0 : 0 ≤ (x &&& 2147483647).toInt := (c_and x 2147483647 (by decide)).1
  rw [(c_irem (x &&& 2147483647) y d hy).1 h0]
  exact ⟨Int.emod_nonneg _ (by omega), Int.emod_lt_of_pos _ hd⟩

theorem own_small6 (v : Int32) (h0 : 0 ≤ v.toInt) (h1 : v.toInt < 6) : v = 0 ∨ v = 1 ∨ v = 2 ∨ v = 3 ∨ v = 4 ∨ v = 5 := by
  have h : v.toInt = 0 ∨ v.toInt = 1 ∨ v.toInt = 2 ∨ v.toInt = 3 ∨ v.toInt = 4 ∨ v.toInt = 5 := by omega
  rcases h with h | h | h | h | h | h
  · exact Or.inl (Int32.toInt_inj.mp (h.trans (by decide)))
  · exact Or.inr (Or.inl (Int32.toInt_inj.mp (h.trans (by decide))))
  · exact Or.inr (Or.inr (Or.inl (Int32.toInt_inj.mp (h.trans (by decide)))))
  · exact Or.inr (Or.inr (Or.inr (Or.inl (Int32.toInt_inj.mp (h.trans (by decide))))))
  · exact Or.inr (Or.inr (Or.inr (Or.inr (Or.inl (Int32.toInt_inj.mp (h.trans (by decide)))))))
  · exact Or.inr (Or.inr (Or.inr (Or.inr (Or.inr ((Int32.toInt_inj.mp (h.trans (by decide))))))))

def own_pick (p1 : Int32) (p2 : Int32) (p3 : Int32) (p4 : Int32) : Int32 := (nar .byte (if (((p2.toUInt32 >>> (p3 &&& 31).toUInt32).toInt32) &&& (1 : Int32)) = (0 : Int32) then (((p1.toUInt32 >>> (((8 : Int32) * (p3 &&& (3 : Int32))) &&& 31).toUInt32).toInt32) &&& (255 : Int32)) else (if (p3 - p4) < (0 : Int32) then (((p1.toUInt32 >>> (((8 : Int32) * (p3 &&& (3 : Int32))) &&& 31).toUInt32).toInt32) &&& (255 : Int32)) else (if (p3 - p4) < (3 : Int32) then (if (p3 - p4) = (0 : Int32) then (239 : Int32) else (if (p3 - p4) = (1 : Int32) then (187 : Int32) else (191 : Int32))) else (((p1.toUInt32 >>> (((8 : Int32) * (p3 &&& (3 : Int32))) &&& 31).toUInt32).toInt32) &&& (255 : Int32))))).toInt8.toInt32)
theorem d1_0 : decode method_3_code 0 = .ok (.iload_n 0, 1) := by decide +kernel
theorem d1_1 : decode method_3_code 1 = .ok (.bipush 8, 2) := by decide +kernel
theorem d1_3 : decode method_3_code 3 = .ok (.iload_n 2, 1) := by decide +kernel
theorem d1_4 : decode method_3_code 4 = .ok (.iconst 3, 1) := by decide +kernel
theorem d1_5 : decode method_3_code 5 = .ok (.iand, 1) := by decide +kernel
theorem d1_6 : decode method_3_code 6 = .ok (.imul, 1) := by decide +kernel
theorem d1_7 : decode method_3_code 7 = .ok (.iushr, 1) := by decide +kernel
theorem d1_8 : decode method_3_code 8 = .ok (.sipush 255, 3) := by decide +kernel
theorem d1_11 : decode method_3_code 11 = .ok (.iand, 1) := by decide +kernel
theorem d1_12 : decode method_3_code 12 = .ok (.istore 4, 2) := by decide +kernel
theorem d1_14 : decode method_3_code 14 = .ok (.iload_n 2, 1) := by decide +kernel
theorem d1_15 : decode method_3_code 15 = .ok (.iload_n 3, 1) := by decide +kernel
theorem d1_16 : decode method_3_code 16 = .ok (.isub, 1) := by decide +kernel
theorem d1_17 : decode method_3_code 17 = .ok (.istore 5, 2) := by decide +kernel
theorem d1_19 : decode method_3_code 19 = .ok (.iload_n 1, 1) := by decide +kernel
theorem d1_20 : decode method_3_code 20 = .ok (.iload_n 2, 1) := by decide +kernel
theorem d1_21 : decode method_3_code 21 = .ok (.iushr, 1) := by decide +kernel
theorem d1_22 : decode method_3_code 22 = .ok (.iconst 1, 1) := by decide +kernel
theorem d1_23 : decode method_3_code 23 = .ok (.iand, 1) := by decide +kernel
theorem d1_24 : decode method_3_code 24 = .ok (.ifCond .eq 46, 3) := by decide +kernel
theorem d1_27 : decode method_3_code 27 = .ok (.iload 5, 2) := by decide +kernel
theorem d1_29 : decode method_3_code 29 = .ok (.ifCond .lt 41, 3) := by decide +kernel
theorem d1_32 : decode method_3_code 32 = .ok (.iload 5, 2) := by decide +kernel
theorem d1_34 : decode method_3_code 34 = .ok (.iconst 3, 1) := by decide +kernel
theorem d1_35 : decode method_3_code 35 = .ok (.if_icmp .ge 35, 3) := by decide +kernel
theorem d1_38 : decode method_3_code 38 = .ok (.iload 5, 2) := by decide +kernel
theorem d1_40 : decode method_3_code 40 = .ok (.ifCond .ne 11, 3) := by decide +kernel
theorem d1_43 : decode method_3_code 43 = .ok (.sipush 239, 3) := by decide +kernel
theorem d1_46 : decode method_3_code 46 = .ok (.istore 4, 2) := by decide +kernel
theorem d1_48 : decode method_3_code 48 = .ok (.goto 22, 3) := by decide +kernel
theorem d1_51 : decode method_3_code 51 = .ok (.iload 5, 2) := by decide +kernel
theorem d1_53 : decode method_3_code 53 = .ok (.iconst 1, 1) := by decide +kernel
theorem d1_54 : decode method_3_code 54 = .ok (.if_icmp .ne 11, 3) := by decide +kernel
theorem d1_57 : decode method_3_code 57 = .ok (.sipush 187, 3) := by decide +kernel
theorem d1_60 : decode method_3_code 60 = .ok (.istore 4, 2) := by decide +kernel
theorem d1_62 : decode method_3_code 62 = .ok (.goto 8, 3) := by decide +kernel
theorem d1_65 : decode method_3_code 65 = .ok (.sipush 191, 3) := by decide +kernel
theorem d1_68 : decode method_3_code 68 = .ok (.istore 4, 2) := by decide +kernel
theorem d1_70 : decode method_3_code 70 = .ok (.iload 4, 2) := by decide +kernel
theorem d1_72 : decode method_3_code 72 = .ok (.i2b, 1) := by decide +kernel
theorem d1_73 : decode method_3_code 73 = .ok (.ireturn, 1) := by decide +kernel
theorem pn_0 : plainName "com/example/tidemine/tidemine/TextFormatStartsWithByteOrderMarkPinLaw" = true := by first | (simp [plainName, overriddenIn]; done) | decide +kernel
theorem ef_1 (m : MethodId) (x0 : Int32) (x1 : Int32) (x2 : Int32) (x3 : Int32) : entryFrame m #[(.int x0), (.int x1), (.int x2), (.int x3)] 6 = mkF m 0 #[.val (.int x0), .val (.int x1), .val (.int x2), .val (.int x3), .unset, .unset] [] := by first | (simp [entryFrame, mkF, argsToLocals, Value.category]; done) | rfl
def Q1 (Z : State) (p1 : Int32) (p2 : Int32) (p3 : Int32) (p4 : Int32) (h0 : Heap) (v : Option Value) (h : Heap) (L : List Loc) : Prop := v = some (.int (own_pick p1 p2 p3 p4)) ∧ L = [] ∧ h = h0
set_option maxRecDepth 65536 in
set_option maxHeartbeats 40000000 in
theorem rm1 (l : Launch) (Z : State) (a0 : Array Value) (hw : ∀ d ∈ tables_1, d.before a0 Z = true) (ws : List Jvm.Cond) (p1 : Int32) (p2 : Int32) (p3 : Int32) (p4 : Int32) (h0 : Heap) :
    MetFree l (⟨"com/example/tidemine/tidemine/TextFormatStartsWithByteOrderMarkPinLaw", "pick", "(IIII)B"⟩ : MethodName) (head1 (Jvm.Cond.code (⟨"com/example/tidemine/tidemine/TextFormatStartsWithByteOrderMarkPinLaw", "pick", "(IIII)B"⟩ : MethodName) method_3_code 6 (some .byte) :: ws) ({ frames := 0, cells := 0, slots := 0, locals := 0 } : Room)) (fun a U => a = #[(.int p1), (.int p2), (.int p3), (.int p4)] ∧ Z.Warmed39 U.vm ∧ U.heap = h0) (fun _ _ _ _ _ => True) (fun _ U o U' => ∃ v L, o = .returned v ∧ Q1 Z p1 p2 p3 p4 h0 v U'.heap L ∧ FrameEnd U o U' L ({ frames := 0, cells := 0, slots := 0, locals := 0 } : Room).cells ({ frames := 0, cells := 0, slots := 0, locals := 0 } : Room).slots) := by
  refine MetFree.of_bodySF (plainFor_of_name pn_0) hisR ?_
  intro p e s m args below meth c s₁ Bd hml0 hP hK
  obtain ⟨rfl, hZ, hh⟩ := hP
  have hx := Bd.exec
  have hby := Bd.bytes
  have hml : c.maxLocals = 6 := hml0
  have hown : s.vm.findClass "com/example/tidemine/tidemine/TextFormatStartsWithByteOrderMarkPinLaw" = some m.cls := findClass_of_methodNamed Bd.named
  have hnm := (name_of_methodNamed Bd.named Bd.method).1
  have X0 : Stand p l e ({ frames := 0, cells := 0, slots := 0, locals := 0 } : Room) s m #[(.int p1), (.int p2), (.int p3), (.int p4)] below meth c s₁ [] 0 0 := Stand.of_body Bd
  have e0 : s₁.heap = h0 := by rw [← hh, Bd.state]; rfl
  have pre0 : ∀ t, Steps p.tables e below (s₁.setTop (mkF m 0 #[.val (.int p1), .val (.int p2), .val (.int p3), .val (.int p4), .unset, .unset] [])) t → Steps p.tables e below (s₁.setTop (entryFrame m #[(.int p1), (.int p2), (.int p3), (.int p4)] 6)) t := fun t k => castTop (ef_1 m p1 p2 p3 p4) k
  obtain ⟨v1, hv1⟩ : ∃ z : Int32, z = (((p1.toUInt32 >>> (((8 : Int32) * (p3 &&& (3 : Int32))) &&& 31).toUInt32).toInt32) &&& (255 : Int32)) := ⟨_, rfl⟩
  obtain ⟨v2, hv2⟩ : ∃ z : Int32, z = (if (((p2.toUInt32 >>> (p3 &&& 31).toUInt32).toInt32) &&& (1 : Int32)) = (0 : Int32) then v1 else (if (p3 - p4) < (0 : Int32) then v1 else (if (p3 - p4) < (3 : Int32) then (if (p3 - p4) = (0 : Int32) then (239 : Int32) else (if (p3 - p4) = (1 : Int32) then (187 : Int32) else (191 : Int32))) else v1))) := ⟨_, rfl⟩
  obtain ⟨T3, X3, e3, st3⟩ : own_Mid X0 h0 (mkF m 24 #[vI p1, vI p2, vI p3, vI p4, vI v1, vI (p3 - p4)] [iI (((p2.toUInt32 >>> (p3 &&& 31).toUInt32).toInt32) &&& (1 : Int32))]) (mkF m 70 #[vI p1, vI p2, vI p3, vI p4, vI v2, vI (p3 - p4)] []) := by
    by_cases hc4 : (((p2.toUInt32 >>> (p3 &&& 31).toUInt32).toInt32) &&& (1 : Int32)) = (0 : Int32)
    · refine ⟨s₁, X0, e0, fun t kt => ?_⟩
      subst hv2
      simp only [if_pos hc4] at kt
      show Steps _ _ _ (s₁.setTop (mkF m 24 #[vI p1, vI p2, vI p3, vI p4, vI v1, vI (p3 - p4)] [iI (((p2.toUInt32 >>> (p3 &&& 31).toUInt32).toInt32) &&& (1 : Int32))])) _
      refine XS.ifYes X0.here hx rfl (pc0 := 24) (pc' := 70) rfl (hb hby d1_24) rfl ((if0 _ _).trans (teq hc4).1) (by decide) (by decide) ?_
      exact kt
    · have pre6 : ∀ t, Steps p.tables e below (s₁.setTop (mkF m 29 #[vI p1, vI p2, vI p3, vI p4, vI v1, vI (p3 - p4)] [iI (p3 - p4)])) t → Steps p.tables e below (s₁.setTop (mkF m 24 #[vI p1, vI p2, vI p3, vI p4, vI v1, vI (p3 - p4)] [iI (((p2.toUInt32 >>> (p3 &&& 31).toUInt32).toInt32) &&& (1 : Int32))])) t := by
        intro t kt
        show Steps _ _ _ (s₁.setTop (mkF m 24 #[vI p1, vI p2, vI p3, vI p4, vI v1, vI (p3 - p4)] [iI (((p2.toUInt32 >>> (p3 &&& 31).toUInt32).toInt32) &&& (1 : Int32))])) _
        refine XS.ifNo X0.here hx rfl (hb hby d1_24) rfl ((if0 _ _).trans (feq hc4).1) ?_
        show Steps _ _ _ (s₁.setTop (mkF m 27 #[vI p1, vI p2, vI p3, vI p4, vI v1, vI (p3 - p4)] [])) _
        refine XS.iload X0.here hx rfl (hb hby d1_27) rfl ?_
        exact kt
      by_cases hc5 : (p3 - p4) < (0 : Int32)
      · refine ⟨s₁, X0, e0, fun t kt => ?_⟩
        subst hv2
        simp only [if_neg hc4, if_pos hc5] at kt
        refine pre6 t ?_
        show Steps _ _ _ (s₁.setTop (mkF m 29 #[vI p1, vI p2, vI p3, vI p4, vI v1, vI (p3 - p4)] [iI (p3 - p4)])) _
        refine XS.ifYes X0.here hx rfl (pc0 := 29) (pc' := 70) rfl (hb hby d1_29) rfl ((if0 _ _).trans (tlt hc5).1) (by decide) (by decide) ?_
        exact kt
      · have pre8 : ∀ t, Steps p.tables e below (s₁.setTop (mkF m 35 #[vI p1, vI p2, vI p3, vI p4, vI v1, vI (p3 - p4)] [iI 3, iI (p3 - p4)])) t → Steps p.tables e below (s₁.setTop (mkF m 24 #[vI p1, vI p2, vI p3, vI p4, vI v1, vI (p3 - p4)] [iI (((p2.toUInt32 >>> (p3 &&& 31).toUInt32).toInt32) &&& (1 : Int32))])) t := by
          intro t kt
          refine pre6 t ?_
          show Steps _ _ _ (s₁.setTop (mkF m 29 #[vI p1, vI p2, vI p3, vI p4, vI v1, vI (p3 - p4)] [iI (p3 - p4)])) _
          refine XS.ifNo X0.here hx rfl (hb hby d1_29) rfl ((if0 _ _).trans (flt hc5).1) ?_
          show Steps _ _ _ (s₁.setTop (mkF m 32 #[vI p1, vI p2, vI p3, vI p4, vI v1, vI (p3 - p4)] [])) _
          refine XS.iload X0.here hx rfl (hb hby d1_32) rfl ?_
          show Steps _ _ _ (s₁.setTop (mkF m 34 #[vI p1, vI p2, vI p3, vI p4, vI v1, vI (p3 - p4)] [iI (p3 - p4)])) _
          refine XS.iconst X0.here hx rfl (hb hby d1_34) ?_
          exact kt
        by_cases hc7 : (p3 - p4) < (3 : Int32)
        · have pre10 : ∀ t, Steps p.tables e below (s₁.setTop (mkF m 40 #[vI p1, vI p2, vI p3, vI p4, vI v1, vI (p3 - p4)] [iI (p3 - p4)])) t → Steps p.tables e below (s₁.setTop (mkF m 24 #[vI p1, vI p2, vI p3, vI p4, vI v1, vI (p3 - p4)] [iI (((p2.toUInt32 >>> (p3 &&& 31).toUInt32).toInt32) &&& (1 : Int32))])) t := by
            intro t kt
            refine pre8 t ?_
            show Steps _ _ _ (s₁.setTop (mkF m 35 #[vI p1, vI p2, vI p3, vI p4, vI v1, vI (p3 - p4)] [iI 3, iI (p3 - p4)])) _
            refine XS.icmpNo X0.here hx rfl (hb hby d1_35) rfl (tlt hc7).2.1 ?_
            show Steps _ _ _ (s₁.setTop (mkF m 38 #[vI p1, vI p2, vI p3, vI p4, vI v1, vI (p3 - p4)] [])) _
            refine XS.iload X0.here hx rfl (hb hby d1_38) rfl ?_
            exact kt
          by_cases hc9 : (p3 - p4) = (0 : Int32)
          · refine ⟨s₁, X0, e0, fun t kt => ?_⟩
            subst hv2
            simp only [if_neg hc4, if_neg hc5, if_pos hc7, if_pos hc9] at kt
            refine pre10 t ?_
            show Steps _ _ _ (s₁.setTop (mkF m 40 #[vI p1, vI p2, vI p3, vI p4, vI v1, vI (p3 - p4)] [iI (p3 - p4)])) _
            refine XS.ifNo X0.here hx rfl (hb hby d1_40) rfl ((if0 _ _).trans (teq hc9).2) ?_
            show Steps _ _ _ (s₁.setTop (mkF m 43 #[vI p1, vI p2, vI p3, vI p4, vI v1, vI (p3 - p4)] [])) _
            refine XS.sipush X0.here hx rfl (hb hby d1_43) ?_
            show Steps _ _ _ (s₁.setTop (mkF m 46 #[vI p1, vI p2, vI p3, vI p4, vI v1, vI (p3 - p4)] [iI 239])) _
            refine XS.istore X0.here hx rfl (hb hby d1_46) rfl (l' := #[vI p1, vI p2, vI p3, vI p4, vI 239, vI (p3 - p4)]) rfl ?_
            show Steps _ _ _ (s₁.setTop (mkF m 48 #[vI p1, vI p2, vI p3, vI p4, vI 239, vI (p3 - p4)] [])) _
            refine XS.goto X0.here hx rfl (pc0 := 48) (pc' := 70) rfl (hb hby d1_48) (by decide) (by decide) ?_
            exact kt
          · have pre12 : ∀ t, Steps p.tables e below (s₁.setTop (mkF m 54 #[vI p1, vI p2, vI p3, vI p4, vI v1, vI (p3 - p4)] [iI 1, iI (p3 - p4)])) t → Steps p.tables e below (s₁.setTop (mkF m 24 #[vI p1, vI p2, vI p3, vI p4, vI v1, vI (p3 - p4)] [iI (((p2.toUInt32 >>> (p3 &&& 31).toUInt32).toInt32) &&& (1 : Int32))])) t := by
              intro t kt
              refine pre10 t ?_
              show Steps _ _ _ (s₁.setTop (mkF m 40 #[vI p1, vI p2, vI p3, vI p4, vI v1, vI (p3 - p4)] [iI (p3 - p4)])) _
              refine XS.ifYes X0.here hx rfl (pc0 := 40) (pc' := 51) rfl (hb hby d1_40) rfl ((if0 _ _).trans (feq hc9).2) (by decide) (by decide) ?_
              show Steps _ _ _ (s₁.setTop (mkF m 51 #[vI p1, vI p2, vI p3, vI p4, vI v1, vI (p3 - p4)] [])) _
              refine XS.iload X0.here hx rfl (hb hby d1_51) rfl ?_
              show Steps _ _ _ (s₁.setTop (mkF m 53 #[vI p1, vI p2, vI p3, vI p4, vI v1, vI (p3 - p4)] [iI (p3 - p4)])) _
              refine XS.iconst X0.here hx rfl (hb hby d1_53) ?_
              exact kt
            by_cases hc11 : (p3 - p4) = (1 : Int32)
            · refine ⟨s₁, X0, e0, fun t kt => ?_⟩
              subst hv2
              simp only [if_neg hc4, if_neg hc5, if_pos hc7, if_neg hc9, if_pos hc11] at kt
              refine pre12 t ?_
              show Steps _ _ _ (s₁.setTop (mkF m 54 #[vI p1, vI p2, vI p3, vI p4, vI v1, vI (p3 - p4)] [iI 1, iI (p3 - p4)])) _
              refine XS.icmpNo X0.here hx rfl (hb hby d1_54) rfl (teq hc11).2 ?_
              show Steps _ _ _ (s₁.setTop (mkF m 57 #[vI p1, vI p2, vI p3, vI p4, vI v1, vI (p3 - p4)] [])) _
              refine XS.sipush X0.here hx rfl (hb hby d1_57) ?_
              show Steps _ _ _ (s₁.setTop (mkF m 60 #[vI p1, vI p2, vI p3, vI p4, vI v1, vI (p3 - p4)] [iI 187])) _
              refine XS.istore X0.here hx rfl (hb hby d1_60) rfl (l' := #[vI p1, vI p2, vI p3, vI p4, vI 187, vI (p3 - p4)]) rfl ?_
              show Steps _ _ _ (s₁.setTop (mkF m 62 #[vI p1, vI p2, vI p3, vI p4, vI 187, vI (p3 - p4)] [])) _
              refine XS.goto X0.here hx rfl (pc0 := 62) (pc' := 70) rfl (hb hby d1_62) (by decide) (by decide) ?_
              exact kt
            · refine ⟨s₁, X0, e0, fun t kt => ?_⟩
              subst hv2
              simp only [if_neg hc4, if_neg hc5, if_pos hc7, if_neg hc9, if_neg hc11] at kt
              refine pre12 t ?_
              show Steps _ _ _ (s₁.setTop (mkF m 54 #[vI p1, vI p2, vI p3, vI p4, vI v1, vI (p3 - p4)] [iI 1, iI (p3 - p4)])) _
              refine XS.icmpYes X0.here hx rfl (pc0 := 54) (pc' := 65) rfl (hb hby d1_54) rfl (feq hc11).2 (by decide) (by decide) ?_
              show Steps _ _ _ (s₁.setTop (mkF m 65 #[vI p1, vI p2, vI p3, vI p4, vI v1, vI (p3 - p4)] [])) _
              refine XS.sipush X0.here hx rfl (hb hby d1_65) ?_
              show Steps _ _ _ (s₁.setTop (mkF m 68 #[vI p1, vI p2, vI p3, vI p4, vI v1, vI (p3 - p4)] [iI 191])) _
              refine XS.istore X0.here hx rfl (hb hby d1_68) rfl (l' := #[vI p1, vI p2, vI p3, vI p4, vI 191, vI (p3 - p4)]) rfl ?_
              exact kt
        · refine ⟨s₁, X0, e0, fun t kt => ?_⟩
          subst hv2
          simp only [if_neg hc4, if_neg hc5, if_neg hc7] at kt
          refine pre8 t ?_
          show Steps _ _ _ (s₁.setTop (mkF m 35 #[vI p1, vI p2, vI p3, vI p4, vI v1, vI (p3 - p4)] [iI 3, iI (p3 - p4)])) _
          refine XS.icmpYes X0.here hx rfl (pc0 := 35) (pc' := 70) rfl (hb hby d1_35) rfl (flt hc7).2.1 (by decide) (by decide) ?_
          exact kt
  obtain ⟨fs, hr, hrun, hended, hW, hsame⟩ := X3.leave (v := some (.int (nar .byte v2.toInt8.toInt32))) (fun h => by rw [Bd.returns] at h; cases h)
  refine ⟨_, _, pre0 _ ?_, hrun, hended, _, _, rfl, ?_, ⟨_, rfl⟩, hW, hsame.mono (by decide) (by decide)⟩
  · show Steps _ _ _ (s₁.setTop (mkF m 0 #[vI p1, vI p2, vI p3, vI p4, .unset, .unset] [])) _
    refine XS.iloadN X0.here hx rfl (hb hby d1_0) rfl ?_
    show Steps _ _ _ (s₁.setTop (mkF m 1 #[vI p1, vI p2, vI p3, vI p4, .unset, .unset] [iI p1])) _
    refine XS.bipush X0.here hx rfl (hb hby d1_1) ?_
    show Steps _ _ _ (s₁.setTop (mkF m 3 #[vI p1, vI p2, vI p3, vI p4, .unset, .unset] [iI 8, iI p1])) _
    refine XS.iloadN X0.here hx rfl (hb hby d1_3) rfl ?_
    show Steps _ _ _ (s₁.setTop (mkF m 4 #[vI p1, vI p2, vI p3, vI p4, .unset, .unset] [iI p3, iI 8, iI p1])) _
    refine XS.iconst X0.here hx rfl (hb hby d1_4) ?_
    show Steps _ _ _ (s₁.setTop (mkF m 5 #[vI p1, vI p2, vI p3, vI p4, .unset, .unset] [iI 3, iI p3, iI 8, iI p1])) _
    refine XS.iand X0.here hx rfl (hb hby d1_5) rfl ?_
    show Steps _ _ _ (s₁.setTop (mkF m 6 #[vI p1, vI p2, vI p3, vI p4, .unset, .unset] [iI (p3 &&& (3 : Int32)), iI 8, iI p1])) _
    refine XS.imul X0.here hx rfl (hb hby d1_6) rfl ?_
    show Steps _ _ _ (s₁.setTop (mkF m 7 #[vI p1, vI p2, vI p3, vI p4, .unset, .unset] [iI ((8 : Int32) * (p3 &&& (3 : Int32))), iI p1])) _
    refine XS.iushr X0.here hx rfl (hb hby d1_7) rfl ?_
    show Steps _ _ _ (s₁.setTop (mkF m 8 #[vI p1, vI p2, vI p3, vI p4, .unset, .unset] [iI ((p1.toUInt32 >>> (((8 : Int32) * (p3 &&& (3 : Int32))) &&& 31).toUInt32).toInt32)])) _
    refine XS.sipush X0.here hx rfl (hb hby d1_8) ?_
    show Steps _ _ _ (s₁.setTop (mkF m 11 #[vI p1, vI p2, vI p3, vI p4, .unset, .unset] [iI 255, iI ((p1.toUInt32 >>> (((8 : Int32) * (p3 &&& (3 : Int32))) &&& 31).toUInt32).toInt32)])) _
    refine XS.iand X0.here hx rfl (hb hby d1_11) rfl ?_
    show Steps _ _ _ (s₁.setTop (mkF m 12 #[vI p1, vI p2, vI p3, vI p4, .unset, .unset] [iI (((p1.toUInt32 >>> (((8 : Int32) * (p3 &&& (3 : Int32))) &&& 31).toUInt32).toInt32) &&& (255 : Int32))])) _
    refine XS.istore X0.here hx rfl (hb hby d1_12) rfl (l' := #[vI p1, vI p2, vI p3, vI p4, vI (((p1.toUInt32 >>> (((8 : Int32) * (p3 &&& (3 : Int32))) &&& 31).toUInt32).toInt32) &&& (255 : Int32)), .unset]) rfl ?_
    rw [← hv1]
    show Steps _ _ _ (s₁.setTop (mkF m 14 #[vI p1, vI p2, vI p3, vI p4, vI v1, .unset] [])) _
    refine XS.iloadN X0.here hx rfl (hb hby d1_14) rfl ?_
    show Steps _ _ _ (s₁.setTop (mkF m 15 #[vI p1, vI p2, vI p3, vI p4, vI v1, .unset] [iI p3])) _
    refine XS.iloadN X0.here hx rfl (hb hby d1_15) rfl ?_
    show Steps _ _ _ (s₁.setTop (mkF m 16 #[vI p1, vI p2, vI p3, vI p4, vI v1, .unset] [iI p4, iI p3])) _
    refine XS.isub X0.here hx rfl (hb hby d1_16) rfl ?_
    show Steps _ _ _ (s₁.setTop (mkF m 17 #[vI p1, vI p2, vI p3, vI p4, vI v1, .unset] [iI (p3 - p4)])) _
    refine XS.istore X0.here hx rfl (hb hby d1_17) rfl (l' := #[vI p1, vI p2, vI p3, vI p4, vI v1, vI (p3 - p4)]) rfl ?_
    show Steps _ _ _ (s₁.setTop (mkF m 19 #[vI p1, vI p2, vI p3, vI p4, vI v1, vI (p3 - p4)] [])) _
    refine XS.iloadN X0.here hx rfl (hb hby d1_19) rfl ?_
    show Steps _ _ _ (s₁.setTop (mkF m 20 #[vI p1, vI p2, vI p3, vI p4, vI v1, vI (p3 - p4)] [iI p2])) _
    refine XS.iloadN X0.here hx rfl (hb hby d1_20) rfl ?_
    show Steps _ _ _ (s₁.setTop (mkF m 21 #[vI p1, vI p2, vI p3, vI p4, vI v1, vI (p3 - p4)] [iI p3, iI p2])) _
    refine XS.iushr X0.here hx rfl (hb hby d1_21) rfl ?_
    show Steps _ _ _ (s₁.setTop (mkF m 22 #[vI p1, vI p2, vI p3, vI p4, vI v1, vI (p3 - p4)] [iI ((p2.toUInt32 >>> (p3 &&& 31).toUInt32).toInt32)])) _
    refine XS.iconst X0.here hx rfl (hb hby d1_22) ?_
    show Steps _ _ _ (s₁.setTop (mkF m 23 #[vI p1, vI p2, vI p3, vI p4, vI v1, vI (p3 - p4)] [iI 1, iI ((p2.toUInt32 >>> (p3 &&& 31).toUInt32).toInt32)])) _
    refine XS.iand X0.here hx rfl (hb hby d1_23) rfl ?_
    show Steps _ _ _ (s₁.setTop (mkF m 24 #[vI p1, vI p2, vI p3, vI p4, vI v1, vI (p3 - p4)] [iI (((p2.toUInt32 >>> (p3 &&& 31).toUInt32).toInt32) &&& (1 : Int32))])) _
    refine st3 _ ?_
    show Steps _ _ _ (T3.setTop (mkF m 70 #[vI p1, vI p2, vI p3, vI p4, vI v2, vI (p3 - p4)] [])) _
    refine XS.iload X3.here hx rfl (hb hby d1_70) rfl ?_
    show Steps _ _ _ (T3.setTop (mkF m 72 #[vI p1, vI p2, vI p3, vI p4, vI v2, vI (p3 - p4)] [iI v2])) _
    refine XS.i2b X3.here hx rfl (hb hby d1_72) rfl ?_
    show Steps _ _ _ (T3.setTop (mkF m 73 #[vI p1, vI p2, vI p3, vI p4, vI v2, vI (p3 - p4)] [iI v2.toInt8.toInt32])) _
    exact retN X3 hx (t := .byte) Bd.returns (by simp) (hb hby d1_73) hr
  · show Q1 Z p1 p2 p3 p4 h0 _ T3.heap _
    rw [e3]
    exact ⟨by subst hv2 hv1; first | rfl | (simp only [own_pick]; done) | (simp only [own_pick]; rfl) | (simp only [own_pick, nar] ; first | rfl | (simp; done) | decide), rfl, rfl⟩
def own_sw_0 (p3 : Int32) (y0 : Int32) (y1 : Int32) (y2 : Int32) (y3 : Int32) (y4 : Int32) : Int32 := (nar .boolean (if (p3 - (0 : Int32)) < (3 : Int32) then (0 : Int32) else (if y0 = (-17 : Int32) then (if y1 = (-69 : Int32) then (if y2 = (-65 : Int32) then (1 : Int32) else (0 : Int32)) else (0 : Int32)) else (0 : Int32))))
theorem d2_0 : decode prog_40_method_8_code 0 = .ok (.iload_n 2, 1) := by decide +kernel
theorem d2_1 : decode prog_40_method_8_code 1 = .ok (.iload_n 1, 1) := by decide +kernel
theorem d2_2 : decode prog_40_method_8_code 2 = .ok (.isub, 1) := by decide +kernel
theorem d2_3 : decode prog_40_method_8_code 3 = .ok (.getstatic 61, 3) := by decide +kernel
theorem d2_6 : decode prog_40_method_8_code 6 = .ok (.arraylength, 1) := by decide +kernel
theorem d2_7 : decode prog_40_method_8_code 7 = .ok (.if_icmp .lt 44, 3) := by decide +kernel
theorem d2_10 : decode prog_40_method_8_code 10 = .ok (.aload_n 0, 1) := by decide +kernel
theorem d2_11 : decode prog_40_method_8_code 11 = .ok (.iload_n 1, 1) := by decide +kernel
theorem d2_12 : decode prog_40_method_8_code 12 = .ok (.baload, 1) := by decide +kernel
theorem d2_13 : decode prog_40_method_8_code 13 = .ok (.getstatic 61, 3) := by decide +kernel
theorem d2_16 : decode prog_40_method_8_code 16 = .ok (.iconst 0, 1) := by decide +kernel
theorem d2_17 : decode prog_40_method_8_code 17 = .ok (.baload, 1) := by decide +kernel
theorem d2_18 : decode prog_40_method_8_code 18 = .ok (.if_icmp .ne 33, 3) := by decide +kernel
theorem d2_21 : decode prog_40_method_8_code 21 = .ok (.aload_n 0, 1) := by decide +kernel
theorem d2_22 : decode prog_40_method_8_code 22 = .ok (.iload_n 1, 1) := by decide +kernel
theorem d2_23 : decode prog_40_method_8_code 23 = .ok (.iconst 1, 1) := by decide +kernel
theorem d2_24 : decode prog_40_method_8_code 24 = .ok (.iadd, 1) := by decide +kernel
theorem d2_25 : decode prog_40_method_8_code 25 = .ok (.baload, 1) := by decide +kernel
theorem d2_26 : decode prog_40_method_8_code 26 = .ok (.getstatic 61, 3) := by decide +kernel
theorem d2_29 : decode prog_40_method_8_code 29 = .ok (.iconst 1, 1) := by decide +kernel
theorem d2_30 : decode prog_40_method_8_code 30 = .ok (.baload, 1) := by decide +kernel
theorem d2_31 : decode prog_40_method_8_code 31 = .ok (.if_icmp .ne 20, 3) := by decide +kernel
theorem d2_34 : decode prog_40_method_8_code 34 = .ok (.aload_n 0, 1) := by decide +kernel
theorem d2_35 : decode prog_40_method_8_code 35 = .ok (.iload_n 1, 1) := by decide +kernel
theorem d2_36 : decode prog_40_method_8_code 36 = .ok (.iconst 2, 1) := by decide +kernel
theorem d2_37 : decode prog_40_method_8_code 37 = .ok (.iadd, 1) := by decide +kernel
theorem d2_38 : decode prog_40_method_8_code 38 = .ok (.baload, 1) := by decide +kernel
theorem d2_39 : decode prog_40_method_8_code 39 = .ok (.getstatic 61, 3) := by decide +kernel
theorem d2_42 : decode prog_40_method_8_code 42 = .ok (.iconst 2, 1) := by decide +kernel
theorem d2_43 : decode prog_40_method_8_code 43 = .ok (.baload, 1) := by decide +kernel
theorem d2_44 : decode prog_40_method_8_code 44 = .ok (.if_icmp .ne 7, 3) := by decide +kernel
theorem d2_47 : decode prog_40_method_8_code 47 = .ok (.iconst 1, 1) := by decide +kernel
theorem d2_48 : decode prog_40_method_8_code 48 = .ok (.goto 4, 3) := by decide +kernel
theorem d2_51 : decode prog_40_method_8_code 51 = .ok (.iconst 0, 1) := by decide +kernel
theorem d2_52 : decode prog_40_method_8_code 52 = .ok (.ireturn, 1) := by decide +kernel
theorem pn_1 : plainName "com/example/tidemine/tidemine/TextFormat" = true := by first | (simp [plainName, overriddenIn]; done) | decide +kernel
theorem ef_2_0 (m : MethodId) (x0 : Addr) (x2 : Int32) : entryFrame m #[(.ref x0), (.int (0 : Int32)), (.int x2)] 3 = mkF m 0 #[.val (.ref x0), .val (.int (0 : Int32)), .val (.int x2)] [] := by first | (simp [entryFrame, mkF, argsToLocals, Value.category]; done) | rfl
def Q2_0 (Z : State) (a1 : Addr) (p3 : Int32) (y0 : Int32) (y1 : Int32) (y2 : Int32) (y3 : Int32) (y4 : Int32) (kk : ClassId) (s_B : Addr) (kB : ClassId) (h0 : Heap) (v : Option Value) (h : Heap) (L : List Loc) : Prop := v = some (.int (own_sw_0 p3 y0 y1 y2 y3 y4)) ∧ L = [] ∧ h = h0
set_option maxRecDepth 65536 in
set_option maxHeartbeats 40000000 in
theorem rm2_0 (l : Launch) (Z : State) (a0 : Array Value) (hw : ∀ d ∈ tables_1, d.before a0 Z = true) (ws : List Jvm.Cond) (a1 : Addr) (p3 : Int32) (y0 : Int32) (y1 : Int32) (y2 : Int32) (y3 : Int32) (y4 : Int32) (kk : ClassId) (s_B : Addr) (kB : ClassId) (h0 : Heap) (S_B : Sta Z h0 "com/example/tidemine/tidemine/TextFormat" "BYTE_ORDER_MARK" "[B" (.ref s_B)) (V_B : Arv Z h0 s_B kB .byte (3 : Int32) [(.int (-17 : Int32)), (.int (-69 : Int32)), (.int (-65 : Int32))] (.int (0 : Int32))) (V_a : Arv Z h0 a1 kk .byte (5 : Int32) [(.int y0), (.int y1), (.int y2), (.int y3), (.int y4)] (.int (0 : Int32))) :
    MetFree l (⟨"com/example/tidemine/tidemine/TextFormat", "startsWithByteOrderMark", "([BII)Z"⟩ : MethodName) (head1 (Jvm.Cond.code (⟨"com/example/tidemine/tidemine/TextFormat", "startsWithByteOrderMark", "([BII)Z"⟩ : MethodName) prog_40_method_8_code 3 (some .boolean) :: ws) ({ frames := 0, cells := 0, slots := 0, locals := 0 } : Room)) (fun a U => a = #[(.ref a1), (.int (0 : Int32)), (.int p3)] ∧ Z.Warmed39 U.vm ∧ U.heap = h0) (fun _ _ _ _ _ => True) (fun _ U o U' => ∃ v L, o = .returned v ∧ Q2_0 Z a1 p3 y0 y1 y2 y3 y4 kk s_B kB h0 v U'.heap L ∧ FrameEnd U o U' L ({ frames := 0, cells := 0, slots := 0, locals := 0 } : Room).cells ({ frames := 0, cells := 0, slots := 0, locals := 0 } : Room).slots) := by
  refine MetFree.of_bodySF (plainFor_of_name pn_1) hisR ?_
  intro p e s m args below meth c s₁ Bd hml0 hP hK
  obtain ⟨rfl, hZ, hh⟩ := hP
  have hx := Bd.exec
  have hby := Bd.bytes
  have hml : c.maxLocals = 3 := hml0
  have hown : s.vm.findClass "com/example/tidemine/tidemine/TextFormat" = some m.cls := findClass_of_methodNamed Bd.named
  have hnm := (name_of_methodNamed Bd.named Bd.method).1
  have X0 : Stand p l e ({ frames := 0, cells := 0, slots := 0, locals := 0 } : Room) s m #[(.ref a1), (.int (0 : Int32)), (.int p3)] below meth c s₁ [] 0 0 := Stand.of_body Bd
  have e0 : s₁.heap = h0 := by rw [← hh, Bd.state]; rfl
  have pre0 : ∀ t, Steps p.tables e below (s₁.setTop (mkF m 0 #[.val (.ref a1), .val (.int (0 : Int32)), .val (.int p3)] [])) t → Steps p.tables e below (s₁.setTop (entryFrame m #[(.ref a1), (.int (0 : Int32)), (.int p3)] 3)) t := fun t k => castTop (ef_2_0 m a1 p3) k
  obtain ⟨T1, X1, e1, st1⟩ := getS2 X0 hx hZ hown (host := "") (Or.inl (hw _ (List.mem_of_getElem? (i := 10) rfl))) Via.refl e0 S_B (g := (mkF m 3 #[vR a1, vI 0, vI p3] [iI (p3 - (0 : Int32))])) rfl (hb hby d2_3)
  obtain ⟨cl2, Ar2, q2, S2, M2, H2, G2⟩ := V_B
  obtain ⟨v3, hv3⟩ : ∃ z : Int32, z = (if (p3 - (0 : Int32)) < (3 : Int32) then (0 : Int32) else (if y0 = (-17 : Int32) then (if y1 = (-69 : Int32) then (if y2 = (-65 : Int32) then (1 : Int32) else (0 : Int32)) else (0 : Int32)) else (0 : Int32))) := ⟨_, rfl⟩
  obtain ⟨T4, X4, e4, st4⟩ : own_Mid X1 h0 (mkF m 7 #[vR a1, vI 0, vI p3] [iI 3, iI (p3 - (0 : Int32))]) (mkF m 52 #[vR a1, vI 0, vI p3] [iI v3]) := by
    by_cases hc5 : (p3 - (0 : Int32)) < (3 : Int32)
    · refine ⟨T1, X1, e1, fun t kt => ?_⟩
      subst hv3
      simp only [if_pos hc5] at kt
      show Steps _ _ _ (T1.setTop (mkF m 7 #[vR a1, vI 0, vI p3] [iI 3, iI (p3 - (0 : Int32))])) _
      refine XS.icmpYes X1.here hx rfl (pc0 := 7) (pc' := 51) rfl (hb hby d2_7) rfl (tlt hc5).1 (by decide) (by decide) ?_
      show Steps _ _ _ (T1.setTop (mkF m 51 #[vR a1, vI 0, vI p3] [])) _
      refine XS.iconst X1.here hx rfl (hb hby d2_51) ?_
      exact kt
    · obtain ⟨cl6, Ar6, q6, S6, M6, H6, G6⟩ := V_a
      have hin7 : ¬ ((0 : Int32) < 0 ∨ cl6.slots.size ≤ ((0 : Int32)).toNatClampNeg) := inb_of S6 ⟨by decide, by decide⟩
      have hat8 : cl6.slots[((0 : Int32)).toNatClampNeg]? = some (.int y0) := Has.at H6 hin7 rfl
      obtain ⟨T9, X9, e9, st9⟩ := getS2 X1 hx hZ hown (host := "") (Or.inl (hw _ (List.mem_of_getElem? (i := 10) rfl))) Via.refl e1 S_B (g := (mkF m 13 #[vR a1, vI 0, vI p3] [iI y0])) rfl (hb hby d2_13)
      have hin10 : ¬ ((0 : Int32) < 0 ∨ cl2.slots.size ≤ ((0 : Int32)).toNatClampNeg) := inb_of S2 ⟨by decide, by decide⟩
      have hat11 : cl2.slots[((0 : Int32)).toNatClampNeg]? = some (.int (-17 : Int32)) := Has.at H2 hin10 rfl
      have pre13 : ∀ t, Steps p.tables e below (T9.setTop (mkF m 18 #[vR a1, vI 0, vI p3] [iI (-17), iI y0])) t → Steps p.tables e below (T1.setTop (mkF m 7 #[vR a1, vI 0, vI p3] [iI 3, iI (p3 - (0 : Int32))])) t := by
        intro t kt
        show Steps _ _ _ (T1.setTop (mkF m 7 #[vR a1, vI 0, vI p3] [iI 3, iI (p3 - (0 : Int32))])) _
        refine XS.icmpNo X1.here hx rfl (hb hby d2_7) rfl (flt hc5).1 ?_
        show Steps _ _ _ (T1.setTop (mkF m 10 #[vR a1, vI 0, vI p3] [])) _
        refine XS.aloadN X1.here hx rfl (hb hby d2_10) rfl rfl ?_
        show Steps _ _ _ (T1.setTop (mkF m 11 #[vR a1, vI 0, vI p3] [iR a1])) _
        refine XS.iloadN X1.here hx rfl (hb hby d2_11) rfl ?_
        show Steps _ _ _ (T1.setTop (mkF m 12 #[vR a1, vI 0, vI p3] [iI 0, iR a1])) _
        refine X1.baloadBytes hx (j := (0 : Int32)) (v := (.int y0)) (by rw [e1]; exact Ar6.1) (State.isArrayOf_alike hZ.alike Ar6.2.1) Ar6.2.2 hin7 hat8 (g := (mkF m 12 #[vR a1, vI 0, vI p3] [iI 0, iR a1])) rfl rfl (hb hby d2_12) _ ?_
        show Steps _ _ _ (T1.setTop (mkF m 13 #[vR a1, vI 0, vI p3] [iI y0])) _
        refine st9 _ ?_
        show Steps _ _ _ (T9.setTop (mkF m 16 #[vR a1, vI 0, vI p3] [iR s_B, iI y0])) _
        refine XS.iconst X9.here hx rfl (hb hby d2_16) ?_
        show Steps _ _ _ (T9.setTop (mkF m 17 #[vR a1, vI 0, vI p3] [iI 0, iR s_B, iI y0])) _
        refine X9.baloadBytes hx (j := (0 : Int32)) (v := (.int (-17 : Int32))) (by rw [e9]; exact Ar2.1) (State.isArrayOf_alike hZ.alike Ar2.2.1) Ar2.2.2 hin10 hat11 (g := (mkF m 17 #[vR a1, vI 0, vI p3] [iI 0, iR s_B, iI y0])) rfl rfl (hb hby d2_17) _ ?_
        exact kt
      by_cases hc12 : y0 = (-17 : Int32)
      · have hin14 : ¬ ((1 : Int32) < 0 ∨ cl6.slots.size ≤ ((1 : Int32)).toNatClampNeg) := inb_of S6 ⟨by decide, by decide⟩
        have hat15 : cl6.slots[((1 : Int32)).toNatClampNeg]? = some (.int y1) := Has.at H6 hin14 rfl
        obtain ⟨T16, X16, e16, st16⟩ := getS2 X9 hx hZ hown (host := "") (Or.inl (hw _ (List.mem_of_getElem? (i := 10) rfl))) Via.refl e9 S_B (g := (mkF m 26 #[vR a1, vI 0, vI p3] [iI y1])) rfl (hb hby d2_26)
        have hin17 : ¬ ((1 : Int32) < 0 ∨ cl2.slots.size ≤ ((1 : Int32)).toNatClampNeg) := inb_of S2 ⟨by decide, by decide⟩
        have hat18 : cl2.slots[((1 : Int32)).toNatClampNeg]? = some (.int (-69 : Int32)) := Has.at H2 hin17 rfl
        have pre20 : ∀ t, Steps p.tables e below (T16.setTop (mkF m 31 #[vR a1, vI 0, vI p3] [iI (-69), iI y1])) t → Steps p.tables e below (T1.setTop (mkF m 7 #[vR a1, vI 0, vI p3] [iI 3, iI (p3 - (0 : Int32))])) t := by
          intro t kt
          refine pre13 t ?_
          show Steps _ _ _ (T9.setTop (mkF m 18 #[vR a1, vI 0, vI p3] [iI (-17), iI y0])) _
          refine XS.icmpNo X9.here hx rfl (hb hby d2_18) rfl (teq hc12).2 ?_
          show Steps _ _ _ (T9.setTop (mkF m 21 #[vR a1, vI 0, vI p3] [])) _
          refine XS.aloadN X9.here hx rfl (hb hby d2_21) rfl rfl ?_
          show Steps _ _ _ (T9.setTop (mkF m 22 #[vR a1, vI 0, vI p3] [iR a1])) _
          refine XS.iloadN X9.here hx rfl (hb hby d2_22) rfl ?_
          show Steps _ _ _ (T9.setTop (mkF m 23 #[vR a1, vI 0, vI p3] [iI 0, iR a1])) _
          refine XS.iconst X9.here hx rfl (hb hby d2_23) ?_
          show Steps _ _ _ (T9.setTop (mkF m 24 #[vR a1, vI 0, vI p3] [iI 1, iI 0, iR a1])) _
          refine XS.iadd X9.here hx rfl (hb hby d2_24) rfl ?_
          rw [(by decide : ((0 : Int32) + (1 : Int32)) = (1 : Int32))]
          show Steps _ _ _ (T9.setTop (mkF m 25 #[vR a1, vI 0, vI p3] [iI 1, iR a1])) _
          refine X9.baloadBytes hx (j := (1 : Int32)) (v := (.int y1)) (by rw [e9]; exact Ar6.1) (State.isArrayOf_alike hZ.alike Ar6.2.1) Ar6.2.2 hin14 hat15 (g := (mkF m 25 #[vR a1, vI 0, vI p3] [iI 1, iR a1])) rfl rfl (hb hby d2_25) _ ?_
          show Steps _ _ _ (T9.setTop (mkF m 26 #[vR a1, vI 0, vI p3] [iI y1])) _
          refine st16 _ ?_
          show Steps _ _ _ (T16.setTop (mkF m 29 #[vR a1, vI 0, vI p3] [iR s_B, iI y1])) _
          refine XS.iconst X16.here hx rfl (hb hby d2_29) ?_
          show Steps _ _ _ (T16.setTop (mkF m 30 #[vR a1, vI 0, vI p3] [iI 1, iR s_B, iI y1])) _
          refine X16.baloadBytes hx (j := (1 : Int32)) (v := (.int (-69 : Int32))) (by rw [e16]; exact Ar2.1) (State.isArrayOf_alike hZ.alike Ar2.2.1) Ar2.2.2 hin17 hat18 (g := (mkF m 30 #[vR a1, vI 0, vI p3] [iI 1, iR s_B, iI y1])) rfl rfl (hb hby d2_30) _ ?_
          exact kt
        by_cases hc19 : y1 = (-69 : Int32)
        · have hin21 : ¬ ((2 : Int32) < 0 ∨ cl6.slots.size ≤ ((2 : Int32)).toNatClampNeg) := inb_of S6 ⟨by decide, by decide⟩
          have hat22 : cl6.slots[((2 : Int32)).toNatClampNeg]? = some (.int y2) := Has.at H6 hin21 rfl
          obtain ⟨T23, X23, e23, st23⟩ := getS2 X16 hx hZ hown (host := "") (Or.inl (hw _ (List.mem_of_getElem? (i := 10) rfl))) Via.refl e16 S_B (g := (mkF m 39 #[vR a1, vI 0, vI p3] [iI y2])) rfl (hb hby d2_39)
          have hin24 : ¬ ((2 : Int32) < 0 ∨ cl2.slots.size ≤ ((2 : Int32)).toNatClampNeg) := inb_of S2 ⟨by decide, by decide⟩
          have hat25 : cl2.slots[((2 : Int32)).toNatClampNeg]? = some (.int (-65 : Int32)) := Has.at H2 hin24 rfl
          have pre27 : ∀ t, Steps p.tables e below (T23.setTop (mkF m 44 #[vR a1, vI 0, vI p3] [iI (-65), iI y2])) t → Steps p.tables e below (T1.setTop (mkF m 7 #[vR a1, vI 0, vI p3] [iI 3, iI (p3 - (0 : Int32))])) t := by
            intro t kt
            refine pre20 t ?_
            show Steps _ _ _ (T16.setTop (mkF m 31 #[vR a1, vI 0, vI p3] [iI (-69), iI y1])) _
            refine XS.icmpNo X16.here hx rfl (hb hby d2_31) rfl (teq hc19).2 ?_
            show Steps _ _ _ (T16.setTop (mkF m 34 #[vR a1, vI 0, vI p3] [])) _
            refine XS.aloadN X16.here hx rfl (hb hby d2_34) rfl rfl ?_
            show Steps _ _ _ (T16.setTop (mkF m 35 #[vR a1, vI 0, vI p3] [iR a1])) _
            refine XS.iloadN X16.here hx rfl (hb hby d2_35) rfl ?_
            show Steps _ _ _ (T16.setTop (mkF m 36 #[vR a1, vI 0, vI p3] [iI 0, iR a1])) _
            refine XS.iconst X16.here hx rfl (hb hby d2_36) ?_
            show Steps _ _ _ (T16.setTop (mkF m 37 #[vR a1, vI 0, vI p3] [iI 2, iI 0, iR a1])) _
            refine XS.iadd X16.here hx rfl (hb hby d2_37) rfl ?_
            rw [(by decide : ((0 : Int32) + (2 : Int32)) = (2 : Int32))]
            show Steps _ _ _ (T16.setTop (mkF m 38 #[vR a1, vI 0, vI p3] [iI 2, iR a1])) _
            refine X16.baloadBytes hx (j := (2 : Int32)) (v := (.int y2)) (by rw [e16]; exact Ar6.1) (State.isArrayOf_alike hZ.alike Ar6.2.1) Ar6.2.2 hin21 hat22 (g := (mkF m 38 #[vR a1, vI 0, vI p3] [iI 2, iR a1])) rfl rfl (hb hby d2_38) _ ?_
            show Steps _ _ _ (T16.setTop (mkF m 39 #[vR a1, vI 0, vI p3] [iI y2])) _
            refine st23 _ ?_
            show Steps _ _ _ (T23.setTop (mkF m 42 #[vR a1, vI 0, vI p3] [iR s_B, iI y2])) _
            refine XS.iconst X23.here hx rfl (hb hby d2_42) ?_
            show Steps _ _ _ (T23.setTop (mkF m 43 #[vR a1, vI 0, vI p3] [iI 2, iR s_B, iI y2])) _
            refine X23.baloadBytes hx (j := (2 : Int32)) (v := (.int (-65 : Int32))) (by rw [e23]; exact Ar2.1) (State.isArrayOf_alike hZ.alike Ar2.2.1) Ar2.2.2 hin24 hat25 (g := (mkF m 43 #[vR a1, vI 0, vI p3] [iI 2, iR s_B, iI y2])) rfl rfl (hb hby d2_43) _ ?_
            exact kt
          by_cases hc26 : y2 = (-65 : Int32)
          · refine ⟨T23, X23, e23, fun t kt => ?_⟩
            subst hv3
            simp only [if_neg hc5, if_pos hc12, if_pos hc19, if_pos hc26] at kt
            refine pre27 t ?_
            show Steps _ _ _ (T23.setTop (mkF m 44 #[vR a1, vI 0, vI p3] [iI (-65), iI y2])) _
            refine XS.icmpNo X23.here hx rfl (hb hby d2_44) rfl (teq hc26).2 ?_
            show Steps _ _ _ (T23.setTop (mkF m 47 #[vR a1, vI 0, vI p3] [])) _
            refine XS.iconst X23.here hx rfl (hb hby d2_47) ?_
            show Steps _ _ _ (T23.setTop (mkF m 48 #[vR a1, vI 0, vI p3] [iI 1])) _
            refine XS.goto X23.here hx rfl (pc0 := 48) (pc' := 52) rfl (hb hby d2_48) (by decide) (by decide) ?_
            exact kt
          · refine ⟨T23, X23, e23, fun t kt => ?_⟩
            subst hv3
            simp only [if_neg hc5, if_pos hc12, if_pos hc19, if_neg hc26] at kt
            refine pre27 t ?_
            show Steps _ _ _ (T23.setTop (mkF m 44 #[vR a1, vI 0, vI p3] [iI (-65), iI y2])) _
            refine XS.icmpYes X23.here hx rfl (pc0 := 44) (pc' := 51) rfl (hb hby d2_44) rfl (feq hc26).2 (by decide) (by decide) ?_
            show Steps _ _ _ (T23.setTop (mkF m 51 #[vR a1, vI 0, vI p3] [])) _
            refine XS.iconst X23.here hx rfl (hb hby d2_51) ?_
            exact kt
        · refine ⟨T16, X16, e16, fun t kt => ?_⟩
          subst hv3
          simp only [if_neg hc5, if_pos hc12, if_neg hc19] at kt
          refine pre20 t ?_
          show Steps _ _ _ (T16.setTop (mkF m 31 #[vR a1, vI 0, vI p3] [iI (-69), iI y1])) _
          refine XS.icmpYes X16.here hx rfl (pc0 := 31) (pc' := 51) rfl (hb hby d2_31) rfl (feq hc19).2 (by decide) (by decide) ?_
          show Steps _ _ _ (T16.setTop (mkF m 51 #[vR a1, vI 0, vI p3] [])) _
          refine XS.iconst X16.here hx rfl (hb hby d2_51) ?_
          exact kt
      · refine ⟨T9, X9, e9, fun t kt => ?_⟩
        subst hv3
        simp only [if_neg hc5, if_neg hc12] at kt
        refine pre13 t ?_
        show Steps _ _ _ (T9.setTop (mkF m 18 #[vR a1, vI 0, vI p3] [iI (-17), iI y0])) _
        refine XS.icmpYes X9.here hx rfl (pc0 := 18) (pc' := 51) rfl (hb hby d2_18) rfl (feq hc12).2 (by decide) (by decide) ?_
        show Steps _ _ _ (T9.setTop (mkF m 51 #[vR a1, vI 0, vI p3] [])) _
        refine XS.iconst X9.here hx rfl (hb hby d2_51) ?_
        exact kt
  obtain ⟨fs, hr, hrun, hended, hW, hsame⟩ := X4.leave (v := some (.int (nar .boolean v3))) (fun h => by rw [Bd.returns] at h; cases h)
  refine ⟨_, _, pre0 _ ?_, hrun, hended, _, _, rfl, ?_, ⟨_, rfl⟩, hW, hsame.mono (by decide) (by decide)⟩
  · show Steps _ _ _ (s₁.setTop (mkF m 0 #[vR a1, vI 0, vI p3] [])) _
    refine XS.iloadN X0.here hx rfl (hb hby d2_0) rfl ?_
    show Steps _ _ _ (s₁.setTop (mkF m 1 #[vR a1, vI 0, vI p3] [iI p3])) _
    refine XS.iloadN X0.here hx rfl (hb hby d2_1) rfl ?_
    show Steps _ _ _ (s₁.setTop (mkF m 2 #[vR a1, vI 0, vI p3] [iI 0, iI p3])) _
    refine XS.isub X0.here hx rfl (hb hby d2_2) rfl ?_
    show Steps _ _ _ (s₁.setTop (mkF m 3 #[vR a1, vI 0, vI p3] [iI (p3 - (0 : Int32))])) _
    refine st1 _ ?_
    show Steps _ _ _ (T1.setTop (mkF m 6 #[vR a1, vI 0, vI p3] [iR s_B, iI (p3 - (0 : Int32))])) _
    refine X1.arraylength hx (by rw [e1]; exact Ar2.1) (State.isArrayOf_alike hZ.alike Ar2.2.1) (g := (mkF m 6 #[vR a1, vI 0, vI p3] [iR s_B, iI (p3 - (0 : Int32))])) rfl rfl (hb hby d2_6) _ ?_
    rw [len_of S2 M2]
    show Steps _ _ _ (T1.setTop (mkF m 7 #[vR a1, vI 0, vI p3] [iI 3, iI (p3 - (0 : Int32))])) _
    refine st4 _ ?_
    show Steps _ _ _ (T4.setTop (mkF m 52 #[vR a1, vI 0, vI p3] [iI v3])) _
    exact retN X4 hx (t := .boolean) Bd.returns (by simp) (hb hby d2_52) hr
  · show Q2_0 Z a1 p3 y0 y1 y2 y3 y4 kk s_B kB h0 _ T4.heap _
    rw [e4]
    exact ⟨by subst hv3; first | rfl | (simp only [own_sw_0]; done) | (simp only [own_sw_0]; rfl) | (simp only [own_sw_0, nar] ; first | rfl | (simp; done) | decide), rfl, rfl⟩
def own_sw_1 (p3 : Int32) (y0 : Int32) (y1 : Int32) (y2 : Int32) (y3 : Int32) (y4 : Int32) : Int32 := (nar .boolean (if (p3 - (1 : Int32)) < (3 : Int32) then (0 : Int32) else (if y1 = (-17 : Int32) then (if y2 = (-69 : Int32) then (if y3 = (-65 : Int32) then (1 : Int32) else (0 : Int32)) else (0 : Int32)) else (0 : Int32))))
theorem ef_2_1 (m : MethodId) (x0 : Addr) (x2 : Int32) : entryFrame m #[(.ref x0), (.int (1 : Int32)), (.int x2)] 3 = mkF m 0 #[.val (.ref x0), .val (.int (1 : Int32)), .val (.int x2)] [] := by first | (simp [entryFrame, mkF, argsToLocals, Value.category]; done) | rfl
def Q2_1 (Z : State) (a1 : Addr) (p3 : Int32) (y0 : Int32) (y1 : Int32) (y2 : Int32) (y3 : Int32) (y4 : Int32) (kk : ClassId) (s_B : Addr) (kB : ClassId) (h0 : Heap) (v : Option Value) (h : Heap) (L : List Loc) : Prop := v = some (.int (own_sw_1 p3 y0 y1 y2 y3 y4)) ∧ L = [] ∧ h = h0
set_option maxRecDepth 65536 in
set_option maxHeartbeats 40000000 in
theorem rm2_1 (l : Launch) (Z : State) (a0 : Array Value) (hw : ∀ d ∈ tables_1, d.before a0 Z = true) (ws : List Jvm.Cond) (a1 : Addr) (p3 : Int32) (y0 : Int32) (y1 : Int32) (y2 : Int32) (y3 : Int32) (y4 : Int32) (kk : ClassId) (s_B : Addr) (kB : ClassId) (h0 : Heap) (S_B : Sta Z h0 "com/example/tidemine/tidemine/TextFormat" "BYTE_ORDER_MARK" "[B" (.ref s_B)) (V_B : Arv Z h0 s_B kB .byte (3 : Int32) [(.int (-17 : Int32)), (.int (-69 : Int32)), (.int (-65 : Int32))] (.int (0 : Int32))) (V_a : Arv Z h0 a1 kk .byte (5 : Int32) [(.int y0), (.int y1), (.int y2), (.int y3), (.int y4)] (.int (0 : Int32))) :
    MetFree l (⟨"com/example/tidemine/tidemine/TextFormat", "startsWithByteOrderMark", "([BII)Z"⟩ : MethodName) (head1 (Jvm.Cond.code (⟨"com/example/tidemine/tidemine/TextFormat", "startsWithByteOrderMark", "([BII)Z"⟩ : MethodName) prog_40_method_8_code 3 (some .boolean) :: ws) ({ frames := 0, cells := 0, slots := 0, locals := 0 } : Room)) (fun a U => a = #[(.ref a1), (.int (1 : Int32)), (.int p3)] ∧ Z.Warmed39 U.vm ∧ U.heap = h0) (fun _ _ _ _ _ => True) (fun _ U o U' => ∃ v L, o = .returned v ∧ Q2_1 Z a1 p3 y0 y1 y2 y3 y4 kk s_B kB h0 v U'.heap L ∧ FrameEnd U o U' L ({ frames := 0, cells := 0, slots := 0, locals := 0 } : Room).cells ({ frames := 0, cells := 0, slots := 0, locals := 0 } : Room).slots) := by
  refine MetFree.of_bodySF (plainFor_of_name pn_1) hisR ?_
  intro p e s m args below meth c s₁ Bd hml0 hP hK
  obtain ⟨rfl, hZ, hh⟩ := hP
  have hx := Bd.exec
  have hby := Bd.bytes
  have hml : c.maxLocals = 3 := hml0
  have hown : s.vm.findClass "com/example/tidemine/tidemine/TextFormat" = some m.cls := findClass_of_methodNamed Bd.named
  have hnm := (name_of_methodNamed Bd.named Bd.method).1
  have X0 : Stand p l e ({ frames := 0, cells := 0, slots := 0, locals := 0 } : Room) s m #[(.ref a1), (.int (1 : Int32)), (.int p3)] below meth c s₁ [] 0 0 := Stand.of_body Bd
  have e0 : s₁.heap = h0 := by rw [← hh, Bd.state]; rfl
  have pre0 : ∀ t, Steps p.tables e below (s₁.setTop (mkF m 0 #[.val (.ref a1), .val (.int (1 : Int32)), .val (.int p3)] [])) t → Steps p.tables e below (s₁.setTop (entryFrame m #[(.ref a1), (.int (1 : Int32)), (.int p3)] 3)) t := fun t k => castTop (ef_2_1 m a1 p3) k
  obtain ⟨T1, X1, e1, st1⟩ := getS2 X0 hx hZ hown (host := "") (Or.inl (hw _ (List.mem_of_getElem? (i := 10) rfl))) Via.refl e0 S_B (g := (mkF m 3 #[vR a1, vI 1, vI p3] [iI (p3 - (1 : Int32))])) rfl (hb hby d2_3)
  obtain ⟨cl2, Ar2, q2, S2, M2, H2, G2⟩ := V_B
  obtain ⟨v3, hv3⟩ : ∃ z : Int32, z = (if (p3 - (1 : Int32)) < (3 : Int32) then (0 : Int32) else (if y1 = (-17 : Int32) then (if y2 = (-69 : Int32) then (if y3 = (-65 : Int32) then (1 : Int32) else (0 : Int32)) else (0 : Int32)) else (0 : Int32))) := ⟨_, rfl⟩
  obtain ⟨T4, X4, e4, st4⟩ : own_Mid X1 h0 (mkF m 7 #[vR a1, vI 1, vI p3] [iI 3, iI (p3 - (1 : Int32))]) (mkF m 52 #[vR a1, vI 1, vI p3] [iI v3]) := by
    by_cases hc5 : (p3 - (1 : Int32)) < (3 : Int32)
    · refine ⟨T1, X1, e1, fun t kt => ?_⟩
      subst hv3
      simp only [if_pos hc5] at kt
      show Steps _ _ _ (T1.setTop (mkF m 7 #[vR a1, vI 1, vI p3] [iI 3, iI (p3 - (1 : Int32))])) _
      refine XS.icmpYes X1.here hx rfl (pc0 := 7) (pc' := 51) rfl (hb hby d2_7) rfl (tlt hc5).1 (by decide) (by decide) ?_
      show Steps _ _ _ (T1.setTop (mkF m 51 #[vR a1, vI 1, vI p3] [])) _
      refine XS.iconst X1.here hx rfl (hb hby d2_51) ?_
      exact kt
    · obtain ⟨cl6, Ar6, q6, S6, M6, H6, G6⟩ := V_a
      have hin7 : ¬ ((1 : Int32) < 0 ∨ cl6.slots.size ≤ ((1 : Int32)).toNatClampNeg) := inb_of S6 ⟨by decide, by decide⟩
      have hat8 : cl6.slots[((1 : Int32)).toNatClampNeg]? = some (.int y1) := Has.at H6 hin7 rfl
      obtain ⟨T9, X9, e9, st9⟩ := getS2 X1 hx hZ hown (host := "") (Or.inl (hw _ (List.mem_of_getElem? (i := 10) rfl))) Via.refl e1 S_B (g := (mkF m 13 #[vR a1, vI 1, vI p3] [iI y1])) rfl (hb hby d2_13)
      have hin10 : ¬ ((0 : Int32) < 0 ∨ cl2.slots.size ≤ ((0 : Int32)).toNatClampNeg) := inb_of S2 ⟨by decide, by decide⟩
      have hat11 : cl2.slots[((0 : Int32)).toNatClampNeg]? = some (.int (-17 : Int32)) := Has.at H2 hin10 rfl
      have pre13 : ∀ t, Steps p.tables e below (T9.setTop (mkF m 18 #[vR a1, vI 1, vI p3] [iI (-17), iI y1])) t → Steps p.tables e below (T1.setTop (mkF m 7 #[vR a1, vI 1, vI p3] [iI 3, iI (p3 - (1 : Int32))])) t := by
        intro t kt
        show Steps _ _ _ (T1.setTop (mkF m 7 #[vR a1, vI 1, vI p3] [iI 3, iI (p3 - (1 : Int32))])) _
        refine XS.icmpNo X1.here hx rfl (hb hby d2_7) rfl (flt hc5).1 ?_
        show Steps _ _ _ (T1.setTop (mkF m 10 #[vR a1, vI 1, vI p3] [])) _
        refine XS.aloadN X1.here hx rfl (hb hby d2_10) rfl rfl ?_
        show Steps _ _ _ (T1.setTop (mkF m 11 #[vR a1, vI 1, vI p3] [iR a1])) _
        refine XS.iloadN X1.here hx rfl (hb hby d2_11) rfl ?_
        show Steps _ _ _ (T1.setTop (mkF m 12 #[vR a1, vI 1, vI p3] [iI 1, iR a1])) _
        refine X1.baloadBytes hx (j := (1 : Int32)) (v := (.int y1)) (by rw [e1]; exact Ar6.1) (State.isArrayOf_alike hZ.alike Ar6.2.1) Ar6.2.2 hin7 hat8 (g := (mkF m 12 #[vR a1, vI 1, vI p3] [iI 1, iR a1])) rfl rfl (hb hby d2_12) _ ?_
        show Steps _ _ _ (T1.setTop (mkF m 13 #[vR a1, vI 1, vI p3] [iI y1])) _
        refine st9 _ ?_
        show Steps _ _ _ (T9.setTop (mkF m 16 #[vR a1, vI 1, vI p3] [iR s_B, iI y1])) _
        refine XS.iconst X9.here hx rfl (hb hby d2_16) ?_
        show Steps _ _ _ (T9.setTop (mkF m 17 #[vR a1, vI 1, vI p3] [iI 0, iR s_B, iI y1])) _
        refine X9.baloadBytes hx (j := (0 : Int32)) (v := (.int (-17 : Int32))) (by rw [e9]; exact Ar2.1) (State.isArrayOf_alike hZ.alike Ar2.2.1) Ar2.2.2 hin10 hat11 (g := (mkF m 17 #[vR a1, vI 1, vI p3] [iI 0, iR s_B, iI y1])) rfl rfl (hb hby d2_17) _ ?_
        exact kt
      by_cases hc12 : y1 = (-17 : Int32)
      · have hin14 : ¬ ((2 : Int32) < 0 ∨ cl6.slots.size ≤ ((2 : Int32)).toNatClampNeg) := inb_of S6 ⟨by decide, by decide⟩
        have hat15 : cl6.slots[((2 : Int32)).toNatClampNeg]? = some (.int y2) := Has.at H6 hin14 rfl
        obtain ⟨T16, X16, e16, st16⟩ := getS2 X9 hx hZ hown (host := "") (Or.inl (hw _ (List.mem_of_getElem? (i := 10) rfl))) Via.refl e9 S_B (g := (mkF m 26 #[vR a1, vI 1, vI p3] [iI y2])) rfl (hb hby d2_26)
        have hin17 : ¬ ((1 : Int32) < 0 ∨ cl2.slots.size ≤ ((1 : Int32)).toNatClampNeg) := inb_of S2 ⟨by decide, by decide⟩
        have hat18 : cl2.slots[((1 : Int32)).toNatClampNeg]? = some (.int (-69 : Int32)) := Has.at H2 hin17 rfl
        have pre20 : ∀ t, Steps p.tables e below (T16.setTop (mkF m 31 #[vR a1, vI 1, vI p3] [iI (-69), iI y2])) t → Steps p.tables e below (T1.setTop (mkF m 7 #[vR a1, vI 1, vI p3] [iI 3, iI (p3 - (1 : Int32))])) t := by
          intro t kt
          refine pre13 t ?_
          show Steps _ _ _ (T9.setTop (mkF m 18 #[vR a1, vI 1, vI p3] [iI (-17), iI y1])) _
          refine XS.icmpNo X9.here hx rfl (hb hby d2_18) rfl (teq hc12).2 ?_
          show Steps _ _ _ (T9.setTop (mkF m 21 #[vR a1, vI 1, vI p3] [])) _
          refine XS.aloadN X9.here hx rfl (hb hby d2_21) rfl rfl ?_
          show Steps _ _ _ (T9.setTop (mkF m 22 #[vR a1, vI 1, vI p3] [iR a1])) _
          refine XS.iloadN X9.here hx rfl (hb hby d2_22) rfl ?_
          show Steps _ _ _ (T9.setTop (mkF m 23 #[vR a1, vI 1, vI p3] [iI 1, iR a1])) _
          refine XS.iconst X9.here hx rfl (hb hby d2_23) ?_
          show Steps _ _ _ (T9.setTop (mkF m 24 #[vR a1, vI 1, vI p3] [iI 1, iI 1, iR a1])) _
          refine XS.iadd X9.here hx rfl (hb hby d2_24) rfl ?_
          rw [(by decide : ((1 : Int32) + (1 : Int32)) = (2 : Int32))]
          show Steps _ _ _ (T9.setTop (mkF m 25 #[vR a1, vI 1, vI p3] [iI 2, iR a1])) _
          refine X9.baloadBytes hx (j := (2 : Int32)) (v := (.int y2)) (by rw [e9]; exact Ar6.1) (State.isArrayOf_alike hZ.alike Ar6.2.1) Ar6.2.2 hin14 hat15 (g := (mkF m 25 #[vR a1, vI 1, vI p3] [iI 2, iR a1])) rfl rfl (hb hby d2_25) _ ?_
          show Steps _ _ _ (T9.setTop (mkF m 26 #[vR a1, vI 1, vI p3] [iI y2])) _
          refine st16 _ ?_
          show Steps _ _ _ (T16.setTop (mkF m 29 #[vR a1, vI 1, vI p3] [iR s_B, iI y2])) _
          refine XS.iconst X16.here hx rfl (hb hby d2_29) ?_
          show Steps _ _ _ (T16.setTop (mkF m 30 #[vR a1, vI 1, vI p3] [iI 1, iR s_B, iI y2])) _
          refine X16.baloadBytes hx (j := (1 : Int32)) (v := (.int (-69 : Int32))) (by rw [e16]; exact Ar2.1) (State.isArrayOf_alike hZ.alike Ar2.2.1) Ar2.2.2 hin17 hat18 (g := (mkF m 30 #[vR a1, vI 1, vI p3] [iI 1, iR s_B, iI y2])) rfl rfl (hb hby d2_30) _ ?_
          exact kt
        by_cases hc19 : y2 = (-69 : Int32)
        · have hin21 : ¬ ((3 : Int32) < 0 ∨ cl6.slots.size ≤ ((3 : Int32)).toNatClampNeg) := inb_of S6 ⟨by decide, by decide⟩
          have hat22 : cl6.slots[((3 : Int32)).toNatClampNeg]? = some (.int y3) := Has.at H6 hin21 rfl
          obtain ⟨T23, X23, e23, st23⟩ := getS2 X16 hx hZ hown (host := "") (Or.inl (hw _ (List.mem_of_getElem? (i := 10) rfl))) Via.refl e16 S_B (g := (mkF m 39 #[vR a1, vI 1, vI p3] [iI y3])) rfl (hb hby d2_39)
          have hin24 : ¬ ((2 : Int32) < 0 ∨ cl2.slots.size ≤ ((2 : Int32)).toNatClampNeg) := inb_of S2 ⟨by decide, by decide⟩
          have hat25 : cl2.slots[((2 : Int32)).toNatClampNeg]? = some (.int (-65 : Int32)) := Has.at H2 hin24 rfl
          have pre27 : ∀ t, Steps p.tables e below (T23.setTop (mkF m 44 #[vR a1, vI 1, vI p3] [iI (-65), iI y3])) t → Steps p.tables e below (T1.setTop (mkF m 7 #[vR a1, vI 1, vI p3] [iI 3, iI (p3 - (1 : Int32))])) t := by
            intro t kt
            refine pre20 t ?_
            show Steps _ _ _ (T16.setTop (mkF m 31 #[vR a1, vI 1, vI p3] [iI (-69), iI y2])) _
            refine XS.icmpNo X16.here hx rfl (hb hby d2_31) rfl (teq hc19).2 ?_
            show Steps _ _ _ (T16.setTop (mkF m 34 #[vR a1, vI 1, vI p3] [])) _
            refine XS.aloadN X16.here hx rfl (hb hby d2_34) rfl rfl ?_
            show Steps _ _ _ (T16.setTop (mkF m 35 #[vR a1, vI 1, vI p3] [iR a1])) _
            refine XS.iloadN X16.here hx rfl (hb hby d2_35) rfl ?_
            show Steps _ _ _ (T16.setTop (mkF m 36 #[vR a1, vI 1, vI p3] [iI 1, iR a1])) _
            refine XS.iconst X16.here hx rfl (hb hby d2_36) ?_
            show Steps _ _ _ (T16.setTop (mkF m 37 #[vR a1, vI 1, vI p3] [iI 2, iI 1, iR a1])) _
            refine XS.iadd X16.here hx rfl (hb hby d2_37) rfl ?_
            rw [(by decide : ((1 : Int32) + (2 : Int32)) = (3 : Int32))]
            show Steps _ _ _ (T16.setTop (mkF m 38 #[vR a1, vI 1, vI p3] [iI 3, iR a1])) _
            refine X16.baloadBytes hx (j := (3 : Int32)) (v := (.int y3)) (by rw [e16]; exact Ar6.1) (State.isArrayOf_alike hZ.alike Ar6.2.1) Ar6.2.2 hin21 hat22 (g := (mkF m 38 #[vR a1, vI 1, vI p3] [iI 3, iR a1])) rfl rfl (hb hby d2_38) _ ?_
            show Steps _ _ _ (T16.setTop (mkF m 39 #[vR a1, vI 1, vI p3] [iI y3])) _
            refine st23 _ ?_
            show Steps _ _ _ (T23.setTop (mkF m 42 #[vR a1, vI 1, vI p3] [iR s_B, iI y3])) _
            refine XS.iconst X23.here hx rfl (hb hby d2_42) ?_
            show Steps _ _ _ (T23.setTop (mkF m 43 #[vR a1, vI 1, vI p3] [iI 2, iR s_B, iI y3])) _
            refine X23.baloadBytes hx (j := (2 : Int32)) (v := (.int (-65 : Int32))) (by rw [e23]; exact Ar2.1) (State.isArrayOf_alike hZ.alike Ar2.2.1) Ar2.2.2 hin24 hat25 (g := (mkF m 43 #[vR a1, vI 1, vI p3] [iI 2, iR s_B, iI y3])) rfl rfl (hb hby d2_43) _ ?_
            exact kt
          by_cases hc26 : y3 = (-65 : Int32)
          · refine ⟨T23, X23, e23, fun t kt => ?_⟩
            subst hv3
            simp only [if_neg hc5, if_pos hc12, if_pos hc19, if_pos hc26] at kt
            refine pre27 t ?_
            show Steps _ _ _ (T23.setTop (mkF m 44 #[vR a1, vI 1, vI p3] [iI (-65), iI y3])) _
            refine XS.icmpNo X23.here hx rfl (hb hby d2_44) rfl (teq hc26).2 ?_
            show Steps _ _ _ (T23.setTop (mkF m 47 #[vR a1, vI 1, vI p3] [])) _
            refine XS.iconst X23.here hx rfl (hb hby d2_47) ?_
            show Steps _ _ _ (T23.setTop (mkF m 48 #[vR a1, vI 1, vI p3] [iI 1])) _
            refine XS.goto X23.here hx rfl (pc0 := 48) (pc' := 52) rfl (hb hby d2_48) (by decide) (by decide) ?_
            exact kt
          · refine ⟨T23, X23, e23, fun t kt => ?_⟩
            subst hv3
            simp only [if_neg hc5, if_pos hc12, if_pos hc19, if_neg hc26] at kt
            refine pre27 t ?_
            show Steps _ _ _ (T23.setTop (mkF m 44 #[vR a1, vI 1, vI p3] [iI (-65), iI y3])) _
            refine XS.icmpYes X23.here hx rfl (pc0 := 44) (pc' := 51) rfl (hb hby d2_44) rfl (feq hc26).2 (by decide) (by decide) ?_
            show Steps _ _ _ (T23.setTop (mkF m 51 #[vR a1, vI 1, vI p3] [])) _
            refine XS.iconst X23.here hx rfl (hb hby d2_51) ?_
            exact kt
        · refine ⟨T16, X16, e16, fun t kt => ?_⟩
          subst hv3
          simp only [if_neg hc5, if_pos hc12, if_neg hc19] at kt
          refine pre20 t ?_
          show Steps _ _ _ (T16.setTop (mkF m 31 #[vR a1, vI 1, vI p3] [iI (-69), iI y2])) _
          refine XS.icmpYes X16.here hx rfl (pc0 := 31) (pc' := 51) rfl (hb hby d2_31) rfl (feq hc19).2 (by decide) (by decide) ?_
          show Steps _ _ _ (T16.setTop (mkF m 51 #[vR a1, vI 1, vI p3] [])) _
          refine XS.iconst X16.here hx rfl (hb hby d2_51) ?_
          exact kt
      · refine ⟨T9, X9, e9, fun t kt => ?_⟩
        subst hv3
        simp only [if_neg hc5, if_neg hc12] at kt
        refine pre13 t ?_
        show Steps _ _ _ (T9.setTop (mkF m 18 #[vR a1, vI 1, vI p3] [iI (-17), iI y1])) _
        refine XS.icmpYes X9.here hx rfl (pc0 := 18) (pc' := 51) rfl (hb hby d2_18) rfl (feq hc12).2 (by decide) (by decide) ?_
        show Steps _ _ _ (T9.setTop (mkF m 51 #[vR a1, vI 1, vI p3] [])) _
        refine XS.iconst X9.here hx rfl (hb hby d2_51) ?_
        exact kt
  obtain ⟨fs, hr, hrun, hended, hW, hsame⟩ := X4.leave (v := some (.int (nar .boolean v3))) (fun h => by rw [Bd.returns] at h; cases h)
  refine ⟨_, _, pre0 _ ?_, hrun, hended, _, _, rfl, ?_, ⟨_, rfl⟩, hW, hsame.mono (by decide) (by decide)⟩
  · show Steps _ _ _ (s₁.setTop (mkF m 0 #[vR a1, vI 1, vI p3] [])) _
    refine XS.iloadN X0.here hx rfl (hb hby d2_0) rfl ?_
    show Steps _ _ _ (s₁.setTop (mkF m 1 #[vR a1, vI 1, vI p3] [iI p3])) _
    refine XS.iloadN X0.here hx rfl (hb hby d2_1) rfl ?_
    show Steps _ _ _ (s₁.setTop (mkF m 2 #[vR a1, vI 1, vI p3] [iI 1, iI p3])) _
    refine XS.isub X0.here hx rfl (hb hby d2_2) rfl ?_
    show Steps _ _ _ (s₁.setTop (mkF m 3 #[vR a1, vI 1, vI p3] [iI (p3 - (1 : Int32))])) _
    refine st1 _ ?_
    show Steps _ _ _ (T1.setTop (mkF m 6 #[vR a1, vI 1, vI p3] [iR s_B, iI (p3 - (1 : Int32))])) _
    refine X1.arraylength hx (by rw [e1]; exact Ar2.1) (State.isArrayOf_alike hZ.alike Ar2.2.1) (g := (mkF m 6 #[vR a1, vI 1, vI p3] [iR s_B, iI (p3 - (1 : Int32))])) rfl rfl (hb hby d2_6) _ ?_
    rw [len_of S2 M2]
    show Steps _ _ _ (T1.setTop (mkF m 7 #[vR a1, vI 1, vI p3] [iI 3, iI (p3 - (1 : Int32))])) _
    refine st4 _ ?_
    show Steps _ _ _ (T4.setTop (mkF m 52 #[vR a1, vI 1, vI p3] [iI v3])) _
    exact retN X4 hx (t := .boolean) Bd.returns (by simp) (hb hby d2_52) hr
  · show Q2_1 Z a1 p3 y0 y1 y2 y3 y4 kk s_B kB h0 _ T4.heap _
    rw [e4]
    exact ⟨by subst hv3; first | rfl | (simp only [own_sw_1]; done) | (simp only [own_sw_1]; rfl) | (simp only [own_sw_1, nar] ; first | rfl | (simp; done) | decide), rfl, rfl⟩
def own_sw_2 (p3 : Int32) (y0 : Int32) (y1 : Int32) (y2 : Int32) (y3 : Int32) (y4 : Int32) : Int32 := (nar .boolean (if (p3 - (2 : Int32)) < (3 : Int32) then (0 : Int32) else (if y2 = (-17 : Int32) then (if y3 = (-69 : Int32) then (if y4 = (-65 : Int32) then (1 : Int32) else (0 : Int32)) else (0 : Int32)) else (0 : Int32))))
theorem ef_2_2 (m : MethodId) (x0 : Addr) (x2 : Int32) : entryFrame m #[(.ref x0), (.int (2 : Int32)), (.int x2)] 3 = mkF m 0 #[.val (.ref x0), .val (.int (2 : Int32)), .val (.int x2)] [] := by first | (simp [entryFrame, mkF, argsToLocals, Value.category]; done) | rfl
def Q2_2 (Z : State) (a1 : Addr) (p3 : Int32) (y0 : Int32) (y1 : Int32) (y2 : Int32) (y3 : Int32) (y4 : Int32) (kk : ClassId) (s_B : Addr) (kB : ClassId) (h0 : Heap) (v : Option Value) (h : Heap) (L : List Loc) : Prop := v = some (.int (own_sw_2 p3 y0 y1 y2 y3 y4)) ∧ L = [] ∧ h = h0
set_option maxRecDepth 65536 in
set_option maxHeartbeats 40000000 in
theorem rm2_2 (l : Launch) (Z : State) (a0 : Array Value) (hw : ∀ d ∈ tables_1, d.before a0 Z = true) (ws : List Jvm.Cond) (a1 : Addr) (p3 : Int32) (y0 : Int32) (y1 : Int32) (y2 : Int32) (y3 : Int32) (y4 : Int32) (kk : ClassId) (s_B : Addr) (kB : ClassId) (h0 : Heap) (S_B : Sta Z h0 "com/example/tidemine/tidemine/TextFormat" "BYTE_ORDER_MARK" "[B" (.ref s_B)) (V_B : Arv Z h0 s_B kB .byte (3 : Int32) [(.int (-17 : Int32)), (.int (-69 : Int32)), (.int (-65 : Int32))] (.int (0 : Int32))) (V_a : Arv Z h0 a1 kk .byte (5 : Int32) [(.int y0), (.int y1), (.int y2), (.int y3), (.int y4)] (.int (0 : Int32))) :
    MetFree l (⟨"com/example/tidemine/tidemine/TextFormat", "startsWithByteOrderMark", "([BII)Z"⟩ : MethodName) (head1 (Jvm.Cond.code (⟨"com/example/tidemine/tidemine/TextFormat", "startsWithByteOrderMark", "([BII)Z"⟩ : MethodName) prog_40_method_8_code 3 (some .boolean) :: ws) ({ frames := 0, cells := 0, slots := 0, locals := 0 } : Room)) (fun a U => a = #[(.ref a1), (.int (2 : Int32)), (.int p3)] ∧ Z.Warmed39 U.vm ∧ U.heap = h0) (fun _ _ _ _ _ => True) (fun _ U o U' => ∃ v L, o = .returned v ∧ Q2_2 Z a1 p3 y0 y1 y2 y3 y4 kk s_B kB h0 v U'.heap L ∧ FrameEnd U o U' L ({ frames := 0, cells := 0, slots := 0, locals := 0 } : Room).cells ({ frames := 0, cells := 0, slots := 0, locals := 0 } : Room).slots) := by
  refine MetFree.of_bodySF (plainFor_of_name pn_1) hisR ?_
  intro p e s m args below meth c s₁ Bd hml0 hP hK
  obtain ⟨rfl, hZ, hh⟩ := hP
  have hx := Bd.exec
  have hby := Bd.bytes
  have hml : c.maxLocals = 3 := hml0
  have hown : s.vm.findClass "com/example/tidemine/tidemine/TextFormat" = some m.cls := findClass_of_methodNamed Bd.named
  have hnm := (name_of_methodNamed Bd.named Bd.method).1
  have X0 : Stand p l e ({ frames := 0, cells := 0, slots := 0, locals := 0 } : Room) s m #[(.ref a1), (.int (2 : Int32)), (.int p3)] below meth c s₁ [] 0 0 := Stand.of_body Bd
  have e0 : s₁.heap = h0 := by rw [← hh, Bd.state]; rfl
  have pre0 : ∀ t, Steps p.tables e below (s₁.setTop (mkF m 0 #[.val (.ref a1), .val (.int (2 : Int32)), .val (.int p3)] [])) t → Steps p.tables e below (s₁.setTop (entryFrame m #[(.ref a1), (.int (2 : Int32)), (.int p3)] 3)) t := fun t k => castTop (ef_2_2 m a1 p3) k
  obtain ⟨T1, X1, e1, st1⟩ := getS2 X0 hx hZ hown (host := "") (Or.inl (hw _ (List.mem_of_getElem? (i := 10) rfl))) Via.refl e0 S_B (g := (mkF m 3 #[vR a1, vI 2, vI p3] [iI (p3 - (2 : Int32))])) rfl (hb hby d2_3)
  obtain ⟨cl2, Ar2, q2, S2, M2, H2, G2⟩ := V_B
  obtain ⟨v3, hv3⟩ : ∃ z : Int32, z = (if (p3 - (2 : Int32)) < (3 : Int32) then (0 : Int32) else (if y2 = (-17 : Int32) then (if y3 = (-69 : Int32) then (if y4 = (-65 : Int32) then (1 : Int32) else (0 : Int32)) else (0 : Int32)) else (0 : Int32))) := ⟨_, rfl⟩
  obtain ⟨T4, X4, e4, st4⟩ : own_Mid X1 h0 (mkF m 7 #[vR a1, vI 2, vI p3] [iI 3, iI (p3 - (2 : Int32))]) (mkF m 52 #[vR a1, vI 2, vI p3] [iI v3]) := by
    by_cases hc5 : (p3 - (2 : Int32)) < (3 : Int32)
    · refine ⟨T1, X1, e1, fun t kt => ?_⟩
      subst hv3
      simp only [if_pos hc5] at kt
      show Steps _ _ _ (T1.setTop (mkF m 7 #[vR a1, vI 2, vI p3] [iI 3, iI (p3 - (2 : Int32))])) _
      refine XS.icmpYes X1.here hx rfl (pc0 := 7) (pc' := 51) rfl (hb hby d2_7) rfl (tlt hc5).1 (by decide) (by decide) ?_
      show Steps _ _ _ (T1.setTop (mkF m 51 #[vR a1, vI 2, vI p3] [])) _
      refine XS.iconst X1.here hx rfl (hb hby d2_51) ?_
      exact kt
    · obtain ⟨cl6, Ar6, q6, S6, M6, H6, G6⟩ := V_a
      have hin7 : ¬ ((2 : Int32) < 0 ∨ cl6.slots.size ≤ ((2 : Int32)).toNatClampNeg) := inb_of S6 ⟨by decide, by decide⟩
      have hat8 : cl6.slots[((2 : Int32)).toNatClampNeg]? = some (.int y2) := Has.at H6 hin7 rfl
      obtain ⟨T9, X9, e9, st9⟩ := getS2 X1 hx hZ hown (host := "") (Or.inl (hw _ (List.mem_of_getElem? (i := 10) rfl))) Via.refl e1 S_B (g := (mkF m 13 #[vR a1, vI 2, vI p3] [iI y2])) rfl (hb hby d2_13)
      have hin10 : ¬ ((0 : Int32) < 0 ∨ cl2.slots.size ≤ ((0 : Int32)).toNatClampNeg) := inb_of S2 ⟨by decide, by decide⟩
      have hat11 : cl2.slots[((0 : Int32)).toNatClampNeg]? = some (.int (-17 : Int32)) := Has.at H2 hin10 rfl
      have pre13 : ∀ t, Steps p.tables e below (T9.setTop (mkF m 18 #[vR a1, vI 2, vI p3] [iI (-17), iI y2])) t → Steps p.tables e below (T1.setTop (mkF m 7 #[vR a1, vI 2, vI p3] [iI 3, iI (p3 - (2 : Int32))])) t := by
        intro t kt
        show Steps _ _ _ (T1.setTop (mkF m 7 #[vR a1, vI 2, vI p3] [iI 3, iI (p3 - (2 : Int32))])) _
        refine XS.icmpNo X1.here hx rfl (hb hby d2_7) rfl (flt hc5).1 ?_
        show Steps _ _ _ (T1.setTop (mkF m 10 #[vR a1, vI 2, vI p3] [])) _
        refine XS.aloadN X1.here hx rfl (hb hby d2_10) rfl rfl ?_
        show Steps _ _ _ (T1.setTop (mkF m 11 #[vR a1, vI 2, vI p3] [iR a1])) _
        refine XS.iloadN X1.here hx rfl (hb hby d2_11) rfl ?_
        show Steps _ _ _ (T1.setTop (mkF m 12 #[vR a1, vI 2, vI p3] [iI 2, iR a1])) _
        refine X1.baloadBytes hx (j := (2 : Int32)) (v := (.int y2)) (by rw [e1]; exact Ar6.1) (State.isArrayOf_alike hZ.alike Ar6.2.1) Ar6.2.2 hin7 hat8 (g := (mkF m 12 #[vR a1, vI 2, vI p3] [iI 2, iR a1])) rfl rfl (hb hby d2_12) _ ?_
        show Steps _ _ _ (T1.setTop (mkF m 13 #[vR a1, vI 2, vI p3] [iI y2])) _
        refine st9 _ ?_
        show Steps _ _ _ (T9.setTop (mkF m 16 #[vR a1, vI 2, vI p3] [iR s_B, iI y2])) _
        refine XS.iconst X9.here hx rfl (hb hby d2_16) ?_
        show Steps _ _ _ (T9.setTop (mkF m 17 #[vR a1, vI 2, vI p3] [iI 0, iR s_B, iI y2])) _
        refine X9.baloadBytes hx (j := (0 : Int32)) (v := (.int (-17 : Int32))) (by rw [e9]; exact Ar2.1) (State.isArrayOf_alike hZ.alike Ar2.2.1) Ar2.2.2 hin10 hat11 (g := (mkF m 17 #[vR a1, vI 2, vI p3] [iI 0, iR s_B, iI y2])) rfl rfl (hb hby d2_17) _ ?_
        exact kt
      by_cases hc12 : y2 = (-17 : Int32)
      · have hin14 : ¬ ((3 : Int32) < 0 ∨ cl6.slots.size ≤ ((3 : Int32)).toNatClampNeg) := inb_of S6 ⟨by decide, by decide⟩
        have hat15 : cl6.slots[((3 : Int32)).toNatClampNeg]? = some (.int y3) := Has.at H6 hin14 rfl
        obtain ⟨T16, X16, e16, st16⟩ := getS2 X9 hx hZ hown (host := "") (Or.inl (hw _ (List.mem_of_getElem? (i := 10) rfl))) Via.refl e9 S_B (g := (mkF m 26 #[vR a1, vI 2, vI p3] [iI y3])) rfl (hb hby d2_26)
        have hin17 : ¬ ((1 : Int32) < 0 ∨ cl2.slots.size ≤ ((1 : Int32)).toNatClampNeg) := inb_of S2 ⟨by decide, by decide⟩
        have hat18 : cl2.slots[((1 : Int32)).toNatClampNeg]? = some (.int (-69 : Int32)) := Has.at H2 hin17 rfl
        have pre20 : ∀ t, Steps p.tables e below (T16.setTop (mkF m 31 #[vR a1, vI 2, vI p3] [iI (-69), iI y3])) t → Steps p.tables e below (T1.setTop (mkF m 7 #[vR a1, vI 2, vI p3] [iI 3, iI (p3 - (2 : Int32))])) t := by
          intro t kt
          refine pre13 t ?_
          show Steps _ _ _ (T9.setTop (mkF m 18 #[vR a1, vI 2, vI p3] [iI (-17), iI y2])) _
          refine XS.icmpNo X9.here hx rfl (hb hby d2_18) rfl (teq hc12).2 ?_
          show Steps _ _ _ (T9.setTop (mkF m 21 #[vR a1, vI 2, vI p3] [])) _
          refine XS.aloadN X9.here hx rfl (hb hby d2_21) rfl rfl ?_
          show Steps _ _ _ (T9.setTop (mkF m 22 #[vR a1, vI 2, vI p3] [iR a1])) _
          refine XS.iloadN X9.here hx rfl (hb hby d2_22) rfl ?_
          show Steps _ _ _ (T9.setTop (mkF m 23 #[vR a1, vI 2, vI p3] [iI 2, iR a1])) _
          refine XS.iconst X9.here hx rfl (hb hby d2_23) ?_
          show Steps _ _ _ (T9.setTop (mkF m 24 #[vR a1, vI 2, vI p3] [iI 1, iI 2, iR a1])) _
          refine XS.iadd X9.here hx rfl (hb hby d2_24) rfl ?_
          rw [(by decide : ((2 : Int32) + (1 : Int32)) = (3 : Int32))]
          show Steps _ _ _ (T9.setTop (mkF m 25 #[vR a1, vI 2, vI p3] [iI 3, iR a1])) _
          refine X9.baloadBytes hx (j := (3 : Int32)) (v := (.int y3)) (by rw [e9]; exact Ar6.1) (State.isArrayOf_alike hZ.alike Ar6.2.1) Ar6.2.2 hin14 hat15 (g := (mkF m 25 #[vR a1, vI 2, vI p3] [iI 3, iR a1])) rfl rfl (hb hby d2_25) _ ?_
          show Steps _ _ _ (T9.setTop (mkF m 26 #[vR a1, vI 2, vI p3] [iI y3])) _
          refine st16 _ ?_
          show Steps _ _ _ (T16.setTop (mkF m 29 #[vR a1, vI 2, vI p3] [iR s_B, iI y3])) _
          refine XS.iconst X16.here hx rfl (hb hby d2_29) ?_
          show Steps _ _ _ (T16.setTop (mkF m 30 #[vR a1, vI 2, vI p3] [iI 1, iR s_B, iI y3])) _
          refine X16.baloadBytes hx (j := (1 : Int32)) (v := (.int (-69 : Int32))) (by rw [e16]; exact Ar2.1) (State.isArrayOf_alike hZ.alike Ar2.2.1) Ar2.2.2 hin17 hat18 (g := (mkF m 30 #[vR a1, vI 2, vI p3] [iI 1, iR s_B, iI y3])) rfl rfl (hb hby d2_30) _ ?_
          exact kt
        by_cases hc19 : y3 = (-69 : Int32)
        · have hin21 : ¬ ((4 : Int32) < 0 ∨ cl6.slots.size ≤ ((4 : Int32)).toNatClampNeg) := inb_of S6 ⟨by decide, by decide⟩
          have hat22 : cl6.slots[((4 : Int32)).toNatClampNeg]? = some (.int y4) := Has.at H6 hin21 rfl
          obtain ⟨T23, X23, e23, st23⟩ := getS2 X16 hx hZ hown (host := "") (Or.inl (hw _ (List.mem_of_getElem? (i := 10) rfl))) Via.refl e16 S_B (g := (mkF m 39 #[vR a1, vI 2, vI p3] [iI y4])) rfl (hb hby d2_39)
          have hin24 : ¬ ((2 : Int32) < 0 ∨ cl2.slots.size ≤ ((2 : Int32)).toNatClampNeg) := inb_of S2 ⟨by decide, by decide⟩
          have hat25 : cl2.slots[((2 : Int32)).toNatClampNeg]? = some (.int (-65 : Int32)) := Has.at H2 hin24 rfl
          have pre27 : ∀ t, Steps p.tables e below (T23.setTop (mkF m 44 #[vR a1, vI 2, vI p3] [iI (-65), iI y4])) t → Steps p.tables e below (T1.setTop (mkF m 7 #[vR a1, vI 2, vI p3] [iI 3, iI (p3 - (2 : Int32))])) t := by
            intro t kt
            refine pre20 t ?_
            show Steps _ _ _ (T16.setTop (mkF m 31 #[vR a1, vI 2, vI p3] [iI (-69), iI y3])) _
            refine XS.icmpNo X16.here hx rfl (hb hby d2_31) rfl (teq hc19).2 ?_
            show Steps _ _ _ (T16.setTop (mkF m 34 #[vR a1, vI 2, vI p3] [])) _
            refine XS.aloadN X16.here hx rfl (hb hby d2_34) rfl rfl ?_
            show Steps _ _ _ (T16.setTop (mkF m 35 #[vR a1, vI 2, vI p3] [iR a1])) _
            refine XS.iloadN X16.here hx rfl (hb hby d2_35) rfl ?_
            show Steps _ _ _ (T16.setTop (mkF m 36 #[vR a1, vI 2, vI p3] [iI 2, iR a1])) _
            refine XS.iconst X16.here hx rfl (hb hby d2_36) ?_
            show Steps _ _ _ (T16.setTop (mkF m 37 #[vR a1, vI 2, vI p3] [iI 2, iI 2, iR a1])) _
            refine XS.iadd X16.here hx rfl (hb hby d2_37) rfl ?_
            rw [(by decide : ((2 : Int32) + (2 : Int32)) = (4 : Int32))]
            show Steps _ _ _ (T16.setTop (mkF m 38 #[vR a1, vI 2, vI p3] [iI 4, iR a1])) _
            refine X16.baloadBytes hx (j := (4 : Int32)) (v := (.int y4)) (by rw [e16]; exact Ar6.1) (State.isArrayOf_alike hZ.alike Ar6.2.1) Ar6.2.2 hin21 hat22 (g := (mkF m 38 #[vR a1, vI 2, vI p3] [iI 4, iR a1])) rfl rfl (hb hby d2_38) _ ?_
            show Steps _ _ _ (T16.setTop (mkF m 39 #[vR a1, vI 2, vI p3] [iI y4])) _
            refine st23 _ ?_
            show Steps _ _ _ (T23.setTop (mkF m 42 #[vR a1, vI 2, vI p3] [iR s_B, iI y4])) _
            refine XS.iconst X23.here hx rfl (hb hby d2_42) ?_
            show Steps _ _ _ (T23.setTop (mkF m 43 #[vR a1, vI 2, vI p3] [iI 2, iR s_B, iI y4])) _
            refine X23.baloadBytes hx (j := (2 : Int32)) (v := (.int (-65 : Int32))) (by rw [e23]; exact Ar2.1) (State.isArrayOf_alike hZ.alike Ar2.2.1) Ar2.2.2 hin24 hat25 (g := (mkF m 43 #[vR a1, vI 2, vI p3] [iI 2, iR s_B, iI y4])) rfl rfl (hb hby d2_43) _ ?_
            exact kt
          by_cases hc26 : y4 = (-65 : Int32)
          · refine ⟨T23, X23, e23, fun t kt => ?_⟩
            subst hv3
            simp only [if_neg hc5, if_pos hc12, if_pos hc19, if_pos hc26] at kt
            refine pre27 t ?_
            show Steps _ _ _ (T23.setTop (mkF m 44 #[vR a1, vI 2, vI p3] [iI (-65), iI y4])) _
            refine XS.icmpNo X23.here hx rfl (hb hby d2_44) rfl (teq hc26).2 ?_
            show Steps _ _ _ (T23.setTop (mkF m 47 #[vR a1, vI 2, vI p3] [])) _
            refine XS.iconst X23.here hx rfl (hb hby d2_47) ?_
            show Steps _ _ _ (T23.setTop (mkF m 48 #[vR a1, vI 2, vI p3] [iI 1])) _
            refine XS.goto X23.here hx rfl (pc0 := 48) (pc' := 52) rfl (hb hby d2_48) (by decide) (by decide) ?_
            exact kt
          · refine ⟨T23, X23, e23, fun t kt => ?_⟩
            subst hv3
            simp only [if_neg hc5, if_pos hc12, if_pos hc19, if_neg hc26] at kt
            refine pre27 t ?_
            show Steps _ _ _ (T23.setTop (mkF m 44 #[vR a1, vI 2, vI p3] [iI (-65), iI y4])) _
            refine XS.icmpYes X23.here hx rfl (pc0 := 44) (pc' := 51) rfl (hb hby d2_44) rfl (feq hc26).2 (by decide) (by decide) ?_
            show Steps _ _ _ (T23.setTop (mkF m 51 #[vR a1, vI 2, vI p3] [])) _
            refine XS.iconst X23.here hx rfl (hb hby d2_51) ?_
            exact kt
        · refine ⟨T16, X16, e16, fun t kt => ?_⟩
          subst hv3
          simp only [if_neg hc5, if_pos hc12, if_neg hc19] at kt
          refine pre20 t ?_
          show Steps _ _ _ (T16.setTop (mkF m 31 #[vR a1, vI 2, vI p3] [iI (-69), iI y3])) _
          refine XS.icmpYes X16.here hx rfl (pc0 := 31) (pc' := 51) rfl (hb hby d2_31) rfl (feq hc19).2 (by decide) (by decide) ?_
          show Steps _ _ _ (T16.setTop (mkF m 51 #[vR a1, vI 2, vI p3] [])) _
          refine XS.iconst X16.here hx rfl (hb hby d2_51) ?_
          exact kt
      · refine ⟨T9, X9, e9, fun t kt => ?_⟩
        subst hv3
        simp only [if_neg hc5, if_neg hc12] at kt
        refine pre13 t ?_
        show Steps _ _ _ (T9.setTop (mkF m 18 #[vR a1, vI 2, vI p3] [iI (-17), iI y2])) _
        refine XS.icmpYes X9.here hx rfl (pc0 := 18) (pc' := 51) rfl (hb hby d2_18) rfl (feq hc12).2 (by decide) (by decide) ?_
        show Steps _ _ _ (T9.setTop (mkF m 51 #[vR a1, vI 2, vI p3] [])) _
        refine XS.iconst X9.here hx rfl (hb hby d2_51) ?_
        exact kt
  obtain ⟨fs, hr, hrun, hended, hW, hsame⟩ := X4.leave (v := some (.int (nar .boolean v3))) (fun h => by rw [Bd.returns] at h; cases h)
  refine ⟨_, _, pre0 _ ?_, hrun, hended, _, _, rfl, ?_, ⟨_, rfl⟩, hW, hsame.mono (by decide) (by decide)⟩
  · show Steps _ _ _ (s₁.setTop (mkF m 0 #[vR a1, vI 2, vI p3] [])) _
    refine XS.iloadN X0.here hx rfl (hb hby d2_0) rfl ?_
    show Steps _ _ _ (s₁.setTop (mkF m 1 #[vR a1, vI 2, vI p3] [iI p3])) _
    refine XS.iloadN X0.here hx rfl (hb hby d2_1) rfl ?_
    show Steps _ _ _ (s₁.setTop (mkF m 2 #[vR a1, vI 2, vI p3] [iI 2, iI p3])) _
    refine XS.isub X0.here hx rfl (hb hby d2_2) rfl ?_
    show Steps _ _ _ (s₁.setTop (mkF m 3 #[vR a1, vI 2, vI p3] [iI (p3 - (2 : Int32))])) _
    refine st1 _ ?_
    show Steps _ _ _ (T1.setTop (mkF m 6 #[vR a1, vI 2, vI p3] [iR s_B, iI (p3 - (2 : Int32))])) _
    refine X1.arraylength hx (by rw [e1]; exact Ar2.1) (State.isArrayOf_alike hZ.alike Ar2.2.1) (g := (mkF m 6 #[vR a1, vI 2, vI p3] [iR s_B, iI (p3 - (2 : Int32))])) rfl rfl (hb hby d2_6) _ ?_
    rw [len_of S2 M2]
    show Steps _ _ _ (T1.setTop (mkF m 7 #[vR a1, vI 2, vI p3] [iI 3, iI (p3 - (2 : Int32))])) _
    refine st4 _ ?_
    show Steps _ _ _ (T4.setTop (mkF m 52 #[vR a1, vI 2, vI p3] [iI v3])) _
    exact retN X4 hx (t := .boolean) Bd.returns (by simp) (hb hby d2_52) hr
  · show Q2_2 Z a1 p3 y0 y1 y2 y3 y4 kk s_B kB h0 _ T4.heap _
    rw [e4]
    exact ⟨by subst hv3; first | rfl | (simp only [own_sw_2]; done) | (simp only [own_sw_2]; rfl) | (simp only [own_sw_2, nar] ; first | rfl | (simp; done) | decide), rfl, rfl⟩
def own_sw_3 (p3 : Int32) (y0 : Int32) (y1 : Int32) (y2 : Int32) (y3 : Int32) (y4 : Int32) : Int32 := (0 : Int32)
theorem ef_2_3 (m : MethodId) (x0 : Addr) (x2 : Int32) : entryFrame m #[(.ref x0), (.int (3 : Int32)), (.int x2)] 3 = mkF m 0 #[.val (.ref x0), .val (.int (3 : Int32)), .val (.int x2)] [] := by first | (simp [entryFrame, mkF, argsToLocals, Value.category]; done) | rfl
def Q2_3 (Z : State) (a1 : Addr) (p3 : Int32) (y0 : Int32) (y1 : Int32) (y2 : Int32) (y3 : Int32) (y4 : Int32) (kk : ClassId) (s_B : Addr) (kB : ClassId) (h0 : Heap) (v : Option Value) (h : Heap) (L : List Loc) : Prop := v = some (.int (own_sw_3 p3 y0 y1 y2 y3 y4)) ∧ L = [] ∧ h = h0
set_option maxRecDepth 65536 in
set_option maxHeartbeats 40000000 in
theorem rm2_3 (l : Launch) (Z : State) (a0 : Array Value) (hw : ∀ d ∈ tables_1, d.before a0 Z = true) (ws : List Jvm.Cond) (a1 : Addr) (p3 : Int32) (y0 : Int32) (y1 : Int32) (y2 : Int32) (y3 : Int32) (y4 : Int32) (kk : ClassId) (s_B : Addr) (kB : ClassId) (h0 : Heap) (S_B : Sta Z h0 "com/example/tidemine/tidemine/TextFormat" "BYTE_ORDER_MARK" "[B" (.ref s_B)) (V_B : Arv Z h0 s_B kB .byte (3 : Int32) [(.int (-17 : Int32)), (.int (-69 : Int32)), (.int (-65 : Int32))] (.int (0 : Int32))) (V_a : Arv Z h0 a1 kk .byte (5 : Int32) [(.int y0), (.int y1), (.int y2), (.int y3), (.int y4)] (.int (0 : Int32))) (hto : (p3 - (3 : Int32)) < (3 : Int32)) :
    MetFree l (⟨"com/example/tidemine/tidemine/TextFormat", "startsWithByteOrderMark", "([BII)Z"⟩ : MethodName) (head1 (Jvm.Cond.code (⟨"com/example/tidemine/tidemine/TextFormat", "startsWithByteOrderMark", "([BII)Z"⟩ : MethodName) prog_40_method_8_code 3 (some .boolean) :: ws) ({ frames := 0, cells := 0, slots := 0, locals := 0 } : Room)) (fun a U => a = #[(.ref a1), (.int (3 : Int32)), (.int p3)] ∧ Z.Warmed39 U.vm ∧ U.heap = h0) (fun _ _ _ _ _ => True) (fun _ U o U' => ∃ v L, o = .returned v ∧ Q2_3 Z a1 p3 y0 y1 y2 y3 y4 kk s_B kB h0 v U'.heap L ∧ FrameEnd U o U' L ({ frames := 0, cells := 0, slots := 0, locals := 0 } : Room).cells ({ frames := 0, cells := 0, slots := 0, locals := 0 } : Room).slots) := by
  refine MetFree.of_bodySF (plainFor_of_name pn_1) hisR ?_
  intro p e s m args below meth c s₁ Bd hml0 hP hK
  obtain ⟨rfl, hZ, hh⟩ := hP
  have hx := Bd.exec
  have hby := Bd.bytes
  have hml : c.maxLocals = 3 := hml0
  have hown : s.vm.findClass "com/example/tidemine/tidemine/TextFormat" = some m.cls := findClass_of_methodNamed Bd.named
  have hnm := (name_of_methodNamed Bd.named Bd.method).1
  have X0 : Stand p l e ({ frames := 0, cells := 0, slots := 0, locals := 0 } : Room) s m #[(.ref a1), (.int (3 : Int32)), (.int p3)] below meth c s₁ [] 0 0 := Stand.of_body Bd
  have e0 : s₁.heap = h0 := by rw [← hh, Bd.state]; rfl
  have pre0 : ∀ t, Steps p.tables e below (s₁.setTop (mkF m 0 #[.val (.ref a1), .val (.int (3 : Int32)), .val (.int p3)] [])) t → Steps p.tables e below (s₁.setTop (entryFrame m #[(.ref a1), (.int (3 : Int32)), (.int p3)] 3)) t := fun t k => castTop (ef_2_3 m a1 p3) k
  obtain ⟨T1, X1, e1, st1⟩ := getS2 X0 hx hZ hown (host := "") (Or.inl (hw _ (List.mem_of_getElem? (i := 10) rfl))) Via.refl e0 S_B (g := (mkF m 3 #[vR a1, vI 3, vI p3] [iI (p3 - (3 : Int32))])) rfl (hb hby d2_3)
  obtain ⟨cl2, Ar2, q2, S2, M2, H2, G2⟩ := V_B
  have hh3 : (p3 - (3 : Int32)) < (3 : Int32) := hto
  obtain ⟨fs, hr, hrun, hended, hW, hsame⟩ := X1.leave (v := some (.int (0 : Int32))) (fun h => by rw [Bd.returns] at h; cases h)
  refine ⟨_, _, pre0 _ ?_, hrun, hended, _, _, rfl, ?_, ⟨_, rfl⟩, hW, hsame.mono (by decide) (by decide)⟩
  · show Steps _ _ _ (s₁.setTop (mkF m 0 #[vR a1, vI 3, vI p3] [])) _
    refine XS.iloadN X0.here hx rfl (hb hby d2_0) rfl ?_
    show Steps _ _ _ (s₁.setTop (mkF m 1 #[vR a1, vI 3, vI p3] [iI p3])) _
    refine XS.iloadN X0.here hx rfl (hb hby d2_1) rfl ?_
    show Steps _ _ _ (s₁.setTop (mkF m 2 #[vR a1, vI 3, vI p3] [iI 3, iI p3])) _
    refine XS.isub X0.here hx rfl (hb hby d2_2) rfl ?_
    show Steps _ _ _ (s₁.setTop (mkF m 3 #[vR a1, vI 3, vI p3] [iI (p3 - (3 : Int32))])) _
    refine st1 _ ?_
    show Steps _ _ _ (T1.setTop (mkF m 6 #[vR a1, vI 3, vI p3] [iR s_B, iI (p3 - (3 : Int32))])) _
    refine X1.arraylength hx (by rw [e1]; exact Ar2.1) (State.isArrayOf_alike hZ.alike Ar2.2.1) (g := (mkF m 6 #[vR a1, vI 3, vI p3] [iR s_B, iI (p3 - (3 : Int32))])) rfl rfl (hb hby d2_6) _ ?_
    rw [len_of S2 M2]
    show Steps _ _ _ (T1.setTop (mkF m 7 #[vR a1, vI 3, vI p3] [iI 3, iI (p3 - (3 : Int32))])) _
    refine XS.icmpYes X1.here hx rfl (pc0 := 7) (pc' := 51) rfl (hb hby d2_7) rfl (tlt hh3).1 (by decide) (by decide) ?_
    show Steps _ _ _ (T1.setTop (mkF m 51 #[vR a1, vI 3, vI p3] [])) _
    refine XS.iconst X1.here hx rfl (hb hby d2_51) ?_
    show Steps _ _ _ (T1.setTop (mkF m 52 #[vR a1, vI 3, vI p3] [iI 0])) _
    exact retN X1 hx (t := .boolean) Bd.returns (by simp) (hb hby d2_52) hr
  · show Q2_3 Z a1 p3 y0 y1 y2 y3 y4 kk s_B kB h0 _ T1.heap _
    rw [e1]
    exact ⟨by first | rfl | (simp only [own_sw_3]; done) | (simp only [own_sw_3]; rfl) | (simp only [own_sw_3, nar] ; first | rfl | (simp; done) | decide), rfl, rfl⟩
def own_sw_4 (p3 : Int32) (y0 : Int32) (y1 : Int32) (y2 : Int32) (y3 : Int32) (y4 : Int32) : Int32 := (0 : Int32)
theorem ef_2_4 (m : MethodId) (x0 : Addr) (x2 : Int32) : entryFrame m #[(.ref x0), (.int (4 : Int32)), (.int x2)] 3 = mkF m 0 #[.val (.ref x0), .val (.int (4 : Int32)), .val (.int x2)] [] := by first | (simp [entryFrame, mkF, argsToLocals, Value.category]; done) | rfl
def Q2_4 (Z : State) (a1 : Addr) (p3 : Int32) (y0 : Int32) (y1 : Int32) (y2 : Int32) (y3 : Int32) (y4 : Int32) (kk : ClassId) (s_B : Addr) (kB : ClassId) (h0 : Heap) (v : Option Value) (h : Heap) (L : List Loc) : Prop := v = some (.int (own_sw_4 p3 y0 y1 y2 y3 y4)) ∧ L = [] ∧ h = h0
set_option maxRecDepth 65536 in
set_option maxHeartbeats 40000000 in
theorem rm2_4 (l : Launch) (Z : State) (a0 : Array Value) (hw : ∀ d ∈ tables_1, d.before a0 Z = true) (ws : List Jvm.Cond) (a1 : Addr) (p3 : Int32) (y0 : Int32) (y1 : Int32) (y2 : Int32) (y3 : Int32) (y4 : Int32) (kk : ClassId) (s_B : Addr) (kB : ClassId) (h0 : Heap) (S_B : Sta Z h0 "com/example/tidemine/tidemine/TextFormat" "BYTE_ORDER_MARK" "[B" (.ref s_B)) (V_B : Arv Z h0 s_B kB .byte (3 : Int32) [(.int (-17 : Int32)), (.int (-69 : Int32)), (.int (-65 : Int32))] (.int (0 : Int32))) (V_a : Arv Z h0 a1 kk .byte (5 : Int32) [(.int y0), (.int y1), (.int y2), (.int y3), (.int y4)] (.int (0 : Int32))) (hto : (p3 - (4 : Int32)) < (3 : Int32)) :
    MetFree l (⟨"com/example/tidemine/tidemine/TextFormat", "startsWithByteOrderMark", "([BII)Z"⟩ : MethodName) (head1 (Jvm.Cond.code (⟨"com/example/tidemine/tidemine/TextFormat", "startsWithByteOrderMark", "([BII)Z"⟩ : MethodName) prog_40_method_8_code 3 (some .boolean) :: ws) ({ frames := 0, cells := 0, slots := 0, locals := 0 } : Room)) (fun a U => a = #[(.ref a1), (.int (4 : Int32)), (.int p3)] ∧ Z.Warmed39 U.vm ∧ U.heap = h0) (fun _ _ _ _ _ => True) (fun _ U o U' => ∃ v L, o = .returned v ∧ Q2_4 Z a1 p3 y0 y1 y2 y3 y4 kk s_B kB h0 v U'.heap L ∧ FrameEnd U o U' L ({ frames := 0, cells := 0, slots := 0, locals := 0 } : Room).cells ({ frames := 0, cells := 0, slots := 0, locals := 0 } : Room).slots) := by
  refine MetFree.of_bodySF (plainFor_of_name pn_1) hisR ?_
  intro p e s m args below meth c s₁ Bd hml0 hP hK
  obtain ⟨rfl, hZ, hh⟩ := hP
  have hx := Bd.exec
  have hby := Bd.bytes
  have hml : c.maxLocals = 3 := hml0
  have hown : s.vm.findClass "com/example/tidemine/tidemine/TextFormat" = some m.cls := findClass_of_methodNamed Bd.named
  have hnm := (name_of_methodNamed Bd.named Bd.method).1
  have X0 : Stand p l e ({ frames := 0, cells := 0, slots := 0, locals := 0 } : Room) s m #[(.ref a1), (.int (4 : Int32)), (.int p3)] below meth c s₁ [] 0 0 := Stand.of_body Bd
  have e0 : s₁.heap = h0 := by rw [← hh, Bd.state]; rfl
  have pre0 : ∀ t, Steps p.tables e below (s₁.setTop (mkF m 0 #[.val (.ref a1), .val (.int (4 : Int32)), .val (.int p3)] [])) t → Steps p.tables e below (s₁.setTop (entryFrame m #[(.ref a1), (.int (4 : Int32)), (.int p3)] 3)) t := fun t k => castTop (ef_2_4 m a1 p3) k
  obtain ⟨T1, X1, e1, st1⟩ := getS2 X0 hx hZ hown (host := "") (Or.inl (hw _ (List.mem_of_getElem? (i := 10) rfl))) Via.refl e0 S_B (g := (mkF m 3 #[vR a1, vI 4, vI p3] [iI (p3 - (4 : Int32))])) rfl (hb hby d2_3)
  obtain ⟨cl2, Ar2, q2, S2, M2, H2, G2⟩ := V_B
  have hh3 : (p3 - (4 : Int32)) < (3 : Int32) := hto
  obtain ⟨fs, hr, hrun, hended, hW, hsame⟩ := X1.leave (v := some (.int (0 : Int32))) (fun h => by rw [Bd.returns] at h; cases h)
  refine ⟨_, _, pre0 _ ?_, hrun, hended, _, _, rfl, ?_, ⟨_, rfl⟩, hW, hsame.mono (by decide) (by decide)⟩
  · show Steps _ _ _ (s₁.setTop (mkF m 0 #[vR a1, vI 4, vI p3] [])) _
    refine XS.iloadN X0.here hx rfl (hb hby d2_0) rfl ?_
    show Steps _ _ _ (s₁.setTop (mkF m 1 #[vR a1, vI 4, vI p3] [iI p3])) _
    refine XS.iloadN X0.here hx rfl (hb hby d2_1) rfl ?_
    show Steps _ _ _ (s₁.setTop (mkF m 2 #[vR a1, vI 4, vI p3] [iI 4, iI p3])) _
    refine XS.isub X0.here hx rfl (hb hby d2_2) rfl ?_
    show Steps _ _ _ (s₁.setTop (mkF m 3 #[vR a1, vI 4, vI p3] [iI (p3 - (4 : Int32))])) _
    refine st1 _ ?_
    show Steps _ _ _ (T1.setTop (mkF m 6 #[vR a1, vI 4, vI p3] [iR s_B, iI (p3 - (4 : Int32))])) _
    refine X1.arraylength hx (by rw [e1]; exact Ar2.1) (State.isArrayOf_alike hZ.alike Ar2.2.1) (g := (mkF m 6 #[vR a1, vI 4, vI p3] [iR s_B, iI (p3 - (4 : Int32))])) rfl rfl (hb hby d2_6) _ ?_
    rw [len_of S2 M2]
    show Steps _ _ _ (T1.setTop (mkF m 7 #[vR a1, vI 4, vI p3] [iI 3, iI (p3 - (4 : Int32))])) _
    refine XS.icmpYes X1.here hx rfl (pc0 := 7) (pc' := 51) rfl (hb hby d2_7) rfl (tlt hh3).1 (by decide) (by decide) ?_
    show Steps _ _ _ (T1.setTop (mkF m 51 #[vR a1, vI 4, vI p3] [])) _
    refine XS.iconst X1.here hx rfl (hb hby d2_51) ?_
    show Steps _ _ _ (T1.setTop (mkF m 52 #[vR a1, vI 4, vI p3] [iI 0])) _
    exact retN X1 hx (t := .boolean) Bd.returns (by simp) (hb hby d2_52) hr
  · show Q2_4 Z a1 p3 y0 y1 y2 y3 y4 kk s_B kB h0 _ T1.heap _
    rw [e1]
    exact ⟨by first | rfl | (simp only [own_sw_4]; done) | (simp only [own_sw_4]; rfl) | (simp only [own_sw_4, nar] ; first | rfl | (simp; done) | decide), rfl, rfl⟩
def own_sw_5 (p3 : Int32) (y0 : Int32) (y1 : Int32) (y2 : Int32) (y3 : Int32) (y4 : Int32) : Int32 := (0 : Int32)
theorem ef_2_5 (m : MethodId) (x0 : Addr) (x2 : Int32) : entryFrame m #[(.ref x0), (.int (5 : Int32)), (.int x2)] 3 = mkF m 0 #[.val (.ref x0), .val (.int (5 : Int32)), .val (.int x2)] [] := by first | (simp [entryFrame, mkF, argsToLocals, Value.category]; done) | rfl
def Q2_5 (Z : State) (a1 : Addr) (p3 : Int32) (y0 : Int32) (y1 : Int32) (y2 : Int32) (y3 : Int32) (y4 : Int32) (kk : ClassId) (s_B : Addr) (kB : ClassId) (h0 : Heap) (v : Option Value) (h : Heap) (L : List Loc) : Prop := v = some (.int (own_sw_5 p3 y0 y1 y2 y3 y4)) ∧ L = [] ∧ h = h0
set_option maxRecDepth 65536 in
set_option maxHeartbeats 40000000 in
theorem rm2_5 (l : Launch) (Z : State) (a0 : Array Value) (hw : ∀ d ∈ tables_1, d.before a0 Z = true) (ws : List Jvm.Cond) (a1 : Addr) (p3 : Int32) (y0 : Int32) (y1 : Int32) (y2 : Int32) (y3 : Int32) (y4 : Int32) (kk : ClassId) (s_B : Addr) (kB : ClassId) (h0 : Heap) (S_B : Sta Z h0 "com/example/tidemine/tidemine/TextFormat" "BYTE_ORDER_MARK" "[B" (.ref s_B)) (V_B : Arv Z h0 s_B kB .byte (3 : Int32) [(.int (-17 : Int32)), (.int (-69 : Int32)), (.int (-65 : Int32))] (.int (0 : Int32))) (V_a : Arv Z h0 a1 kk .byte (5 : Int32) [(.int y0), (.int y1), (.int y2), (.int y3), (.int y4)] (.int (0 : Int32))) (hto : (p3 - (5 : Int32)) < (3 : Int32)) :
    MetFree l (⟨"com/example/tidemine/tidemine/TextFormat", "startsWithByteOrderMark", "([BII)Z"⟩ : MethodName) (head1 (Jvm.Cond.code (⟨"com/example/tidemine/tidemine/TextFormat", "startsWithByteOrderMark", "([BII)Z"⟩ : MethodName) prog_40_method_8_code 3 (some .boolean) :: ws) ({ frames := 0, cells := 0, slots := 0, locals := 0 } : Room)) (fun a U => a = #[(.ref a1), (.int (5 : Int32)), (.int p3)] ∧ Z.Warmed39 U.vm ∧ U.heap = h0) (fun _ _ _ _ _ => True) (fun _ U o U' => ∃ v L, o = .returned v ∧ Q2_5 Z a1 p3 y0 y1 y2 y3 y4 kk s_B kB h0 v U'.heap L ∧ FrameEnd U o U' L ({ frames := 0, cells := 0, slots := 0, locals := 0 } : Room).cells ({ frames := 0, cells := 0, slots := 0, locals := 0 } : Room).slots) := by
  refine MetFree.of_bodySF (plainFor_of_name pn_1) hisR ?_
  intro p e s m args below meth c s₁ Bd hml0 hP hK
  obtain ⟨rfl, hZ, hh⟩ := hP
  have hx := Bd.exec
  have hby := Bd.bytes
  have hml : c.maxLocals = 3 := hml0
  have hown : s.vm.findClass "com/example/tidemine/tidemine/TextFormat" = some m.cls := findClass_of_methodNamed Bd.named
  have hnm := (name_of_methodNamed Bd.named Bd.method).1
  have X0 : Stand p l e ({ frames := 0, cells := 0, slots := 0, locals := 0 } : Room) s m #[(.ref a1), (.int (5 : Int32)), (.int p3)] below meth c s₁ [] 0 0 := Stand.of_body Bd
  have e0 : s₁.heap = h0 := by rw [← hh, Bd.state]; rfl
  have pre0 : ∀ t, Steps p.tables e below (s₁.setTop (mkF m 0 #[.val (.ref a1), .val (.int (5 : Int32)), .val (.int p3)] [])) t → Steps p.tables e below (s₁.setTop (entryFrame m #[(.ref a1), (.int (5 : Int32)), (.int p3)] 3)) t := fun t k => castTop (ef_2_5 m a1 p3) k
  obtain ⟨T1, X1, e1, st1⟩ := getS2 X0 hx hZ hown (host := "") (Or.inl (hw _ (List.mem_of_getElem? (i := 10) rfl))) Via.refl e0 S_B (g := (mkF m 3 #[vR a1, vI 5, vI p3] [iI (p3 - (5 : Int32))])) rfl (hb hby d2_3)
  obtain ⟨cl2, Ar2, q2, S2, M2, H2, G2⟩ := V_B
  have hh3 : (p3 - (5 : Int32)) < (3 : Int32) := hto
  obtain ⟨fs, hr, hrun, hended, hW, hsame⟩ := X1.leave (v := some (.int (0 : Int32))) (fun h => by rw [Bd.returns] at h; cases h)
  refine ⟨_, _, pre0 _ ?_, hrun, hended, _, _, rfl, ?_, ⟨_, rfl⟩, hW, hsame.mono (by decide) (by decide)⟩
  · show Steps _ _ _ (s₁.setTop (mkF m 0 #[vR a1, vI 5, vI p3] [])) _
    refine XS.iloadN X0.here hx rfl (hb hby d2_0) rfl ?_
    show Steps _ _ _ (s₁.setTop (mkF m 1 #[vR a1, vI 5, vI p3] [iI p3])) _
    refine XS.iloadN X0.here hx rfl (hb hby d2_1) rfl ?_
    show Steps _ _ _ (s₁.setTop (mkF m 2 #[vR a1, vI 5, vI p3] [iI 5, iI p3])) _
    refine XS.isub X0.here hx rfl (hb hby d2_2) rfl ?_
    show Steps _ _ _ (s₁.setTop (mkF m 3 #[vR a1, vI 5, vI p3] [iI (p3 - (5 : Int32))])) _
    refine st1 _ ?_
    show Steps _ _ _ (T1.setTop (mkF m 6 #[vR a1, vI 5, vI p3] [iR s_B, iI (p3 - (5 : Int32))])) _
    refine X1.arraylength hx (by rw [e1]; exact Ar2.1) (State.isArrayOf_alike hZ.alike Ar2.2.1) (g := (mkF m 6 #[vR a1, vI 5, vI p3] [iR s_B, iI (p3 - (5 : Int32))])) rfl rfl (hb hby d2_6) _ ?_
    rw [len_of S2 M2]
    show Steps _ _ _ (T1.setTop (mkF m 7 #[vR a1, vI 5, vI p3] [iI 3, iI (p3 - (5 : Int32))])) _
    refine XS.icmpYes X1.here hx rfl (pc0 := 7) (pc' := 51) rfl (hb hby d2_7) rfl (tlt hh3).1 (by decide) (by decide) ?_
    show Steps _ _ _ (T1.setTop (mkF m 51 #[vR a1, vI 5, vI p3] [])) _
    refine XS.iconst X1.here hx rfl (hb hby d2_51) ?_
    show Steps _ _ _ (T1.setTop (mkF m 52 #[vR a1, vI 5, vI p3] [iI 0])) _
    exact retN X1 hx (t := .boolean) Bd.returns (by simp) (hb hby d2_52) hr
  · show Q2_5 Z a1 p3 y0 y1 y2 y3 y4 kk s_B kB h0 _ T1.heap _
    rw [e1]
    exact ⟨by first | rfl | (simp only [own_sw_5]; done) | (simp only [own_sw_5]; rfl) | (simp only [own_sw_5, nar] ; first | rfl | (simp; done) | decide), rfl, rfl⟩
theorem own_nb (z : Int32) : -128 ≤ (nar .byte z).toInt ∧ (nar .byte z).toInt < 128 := (c_i2b z).2
theorem own_bt (x : Int32) (h : -128 ≤ x.toInt ∧ x.toInt < 128) (a b : Int32) (h1 : 128 ≤ a.toInt ∧ a.toInt < 256) (h2 : b.toInt = a.toInt - 256) : ((x &&& (255 : Int32)) = a) ↔ (x = b) := by
  have e := c_mask x 255 8 (by decide) (by decide)
  rw [← Int32.toInt_inj, ← Int32.toInt_inj, e, h2]
  show x.toInt % 256 = a.toInt ↔ _
  omega
theorem own_back (a r : Int32) : (a + r) - a = r := by rw [Int32.add_comm, Int32.add_sub_cancel]
theorem own_to (a r : Int32) (h : r.toInt < 3) : (a + r) - a < (3 : Int32) := by rw [own_back, Int32.lt_iff_toInt_lt]; exact h
theorem own_q_0 (t e0 e1 e2 e3 e4 : Int32) (h0 : -128 ≤ e0.toInt ∧ e0.toInt < 128) (h1 : -128 ≤ e1.toInt ∧ e1.toInt < 128) (h2 : -128 ≤ e2.toInt ∧ e2.toInt < 128) : own_sw_0 t e0 e1 e2 e3 e4 = (if (t - (0 : Int32)) < (3 : Int32) then (0 : Int32) else (if (e0 &&& (255 : Int32)) = (239 : Int32) then (if (e1 &&& (255 : Int32)) = (187 : Int32) then (if (e2 &&& (255 : Int32)) = (191 : Int32) then (1 : Int32) else (0 : Int32)) else (0 : Int32)) else (0 : Int32))) := by
  unfold own_sw_0
  simp only [own_bt e0 h0 239 (-17) (by decide) (by decide), own_bt e1 h1 187 (-69) (by decide) (by decide), own_bt e2 h2 191 (-65) (by decide) (by decide)]
  repeat' split
  all_goals rfl
theorem own_q_1 (t e0 e1 e2 e3 e4 : Int32) (h0 : -128 ≤ e1.toInt ∧ e1.toInt < 128) (h1 : -128 ≤ e2.toInt ∧ e2.toInt < 128) (h2 : -128 ≤ e3.toInt ∧ e3.toInt < 128) : own_sw_1 t e0 e1 e2 e3 e4 = (if (t - (1 : Int32)) < (3 : Int32) then (0 : Int32) else (if (e1 &&& (255 : Int32)) = (239 : Int32) then (if (e2 &&& (255 : Int32)) = (187 : Int32) then (if (e3 &&& (255 : Int32)) = (191 : Int32) then (1 : Int32) else (0 : Int32)) else (0 : Int32)) else (0 : Int32))) := by
  unfold own_sw_1
  simp only [own_bt e1 h0 239 (-17) (by decide) (by decide), own_bt e2 h1 187 (-69) (by decide) (by decide), own_bt e3 h2 191 (-65) (by decide) (by decide)]
  repeat' split
  all_goals rfl
theorem own_q_2 (t e0 e1 e2 e3 e4 : Int32) (h0 : -128 ≤ e2.toInt ∧ e2.toInt < 128) (h1 : -128 ≤ e3.toInt ∧ e3.toInt < 128) (h2 : -128 ≤ e4.toInt ∧ e4.toInt < 128) : own_sw_2 t e0 e1 e2 e3 e4 = (if (t - (2 : Int32)) < (3 : Int32) then (0 : Int32) else (if (e2 &&& (255 : Int32)) = (239 : Int32) then (if (e3 &&& (255 : Int32)) = (187 : Int32) then (if (e4 &&& (255 : Int32)) = (191 : Int32) then (1 : Int32) else (0 : Int32)) else (0 : Int32)) else (0 : Int32))) := by
  unfold own_sw_2
  simp only [own_bt e2 h0 239 (-17) (by decide) (by decide), own_bt e3 h1 187 (-69) (by decide) (by decide), own_bt e4 h2 191 (-65) (by decide) (by decide)]
  repeat' split
  all_goals rfl

theorem ef_0 (m : MethodId) (x0 : Int32) (x1 : Int32) (x2 : Int32) (x3 : Int32) (x4 : Int32) : entryFrame m #[(.int x0), (.int x1), (.int x2), (.int x3), (.int x4)] maxLocals = mkF m 0 #[.val (.int x0), .val (.int x1), .val (.int x2), .val (.int x3), .val (.int x4), .unset, .unset, .unset, .unset, .unset] [] := by first | (simp [entryFrame, mkF, argsToLocals, Value.category, maxLocals]; done) | rfl
def Q0 (Z : State) (p1 : Int32) (p2 : Int32) (p3 : Int32) (p4 : Int32) (p5 : Int32) (s_B : Addr) (kB : ClassId) (h0 : Heap) (n0 : Nat) (v : Option Value) (h : Heap) (L : List Loc) : Prop := v = some (.int (1 : Int32)) ∧ Fr n0 L
set_option maxRecDepth 65536 in
set_option maxHeartbeats 40000000 in
theorem rm0 (l : Launch) (Z : State) (a0 : Array Value) (hw : ∀ d ∈ tables_1, d.before a0 Z = true) (ws : List Jvm.Cond) (p1 : Int32) (p2 : Int32) (p3 : Int32) (p4 : Int32) (p5 : Int32) (s_B : Addr) (kB : ClassId) (h0 : Heap) (n0 : Nat) (Z0 : n0 ≤ h0.size) (S_B : Sta Z h0 "com/example/tidemine/tidemine/TextFormat" "BYTE_ORDER_MARK" "[B" (.ref s_B)) (V_B : Arv Z h0 s_B kB .byte (3 : Int32) [(.int (-17 : Int32)), (.int (-69 : Int32)), (.int (-65 : Int32))] (.int (0 : Int32))) :
    MetFree l x (head1 (Jvm.Cond.code x code maxLocals ret :: ws) room_1) (fun a U => a = #[(.int p1), (.int p2), (.int p3), (.int p4), (.int p5)] ∧ Z.Warmed39 U.vm ∧ U.heap = h0) (fun _ _ _ _ _ => True) (fun _ U o U' => ∃ v L, o = .returned v ∧ Q0 Z p1 p2 p3 p4 p5 s_B kB h0 n0 v U'.heap L ∧ FrameEnd U o U' L room_1.cells room_1.slots) := by
  refine MetFree.of_bodySF (plainFor_of_name pn_0) hisR ?_
  intro p e s m args below meth c s₁ Bd hml0 hP hK
  obtain ⟨rfl, hZ, hh⟩ := hP
  have hx := Bd.exec
  have hby := Bd.bytes
  have hml : c.maxLocals = 10 := hml0
  have hown : s.vm.findClass "com/example/tidemine/tidemine/TextFormatStartsWithByteOrderMarkPinLaw" = some m.cls := findClass_of_methodNamed Bd.named
  have hnm := (name_of_methodNamed Bd.named Bd.method).1
  have X0 : Stand p l e room_1 s m #[(.int p1), (.int p2), (.int p3), (.int p4), (.int p5)] below meth c s₁ [] 0 0 := Stand.of_body Bd
  have e0 : s₁.heap = h0 := by rw [← hh, Bd.state]; rfl
  have N0 := Fr.nil n0
  have K0 := Keep.refl h0 []
  have pre0 : ∀ t, Steps p.tables e below (s₁.setTop (mkF m 0 #[.val (.int p1), .val (.int p2), .val (.int p3), .val (.int p4), .val (.int p5), .unset, .unset, .unset, .unset, .unset] [])) t → Steps p.tables e below (s₁.setTop (entryFrame m #[(.int p1), (.int p2), (.int p3), (.int p4), (.int p5)] maxLocals)) t := fun t k => castTop (ef_0 m p1 p2 p3 p4 p5) k
  obtain ⟨fv, hfv⟩ : ∃ z : Int32, z = ((p4 &&& (2147483647 : Int32)) % (6 : Int32)) := ⟨_, rfl⟩
  have qfv : fv = 0 ∨ fv = 1 ∨ fv = 2 ∨ fv = 3 ∨ fv = 4 ∨ fv = 5 := by rw [hfv]; exact own_small6 _ (own_rem p4 6 6 rfl (by decide)).1 (own_rem p4 6 6 rfl (by decide)).2
  obtain ⟨tv, htv⟩ : ∃ z : Int32, z = (fv + ((p5 &&& (2147483647 : Int32)) % ((6 : Int32) - fv))) := ⟨_, rfl⟩
  obtain ⟨T3, h3, k3, X3, e3, E3, A3, st3⟩ := newP X0 hx hZ (hw _ (List.mem_of_getElem? (i := 1) rfl)) e0 (g := (mkF m 26 #[vI p1, vI p2, vI p3, vI p4, vI p5, vI fv, vI tv, .unset, .unset, .unset] [iI 5])) rfl (hb hby at_26) rfl (by decide) (cap := 5) (by decide) (by decide) (by decide) (by decide)
  obtain ⟨b3, g3⟩ : ∃ z, z = h0.size := ⟨_, rfl⟩
  rw [← g3] at A3 st3
  have ne_s_B_b3 : s_B ≠ b3 := Nat.ne_of_lt (Nat.lt_of_lt_of_le V_B.lt (Nat.le_of_eq g3.symm))
  have sz_b3 : h0.size ≤ b3 := Nat.le_trans K0.1 (Nat.le_of_eq g3.symm)
  have g_b3 : n0 ≤ b3 := Nat.le_trans Z0 sz_b3
  have K3 : Keep h0 h3 [] := K0.ext E3
  have V3 : Arv Z h3 b3 k3 .byte (5 : Int32) [(.int (0 : Int32)), (.int (0 : Int32)), (.int (0 : Int32)), (.int (0 : Int32)), (.int (0 : Int32))] (.int (0 : Int32)) := (Arv.new A3 (by decide)).pad (pad_rep [] (.int (0 : Int32)) 5)
  obtain ⟨_, _, ⟨T4, L4, k4, n4⟩, -, X4, ⟨Lc4, hQ4, l4, y4, z4⟩, st4⟩ := Jvm.LawKit.callS X3 hx (y := (⟨"com/example/tidemine/tidemine/TextFormatStartsWithByteOrderMarkPinLaw", "pick", "(IIII)B"⟩ : MethodName)) hown (mvT hZ (hw _ (List.mem_of_getElem? (i := 2) rfl))) (mvT hZ (hw _ (List.mem_of_getElem? (i := 3) rfl))) (mvT hZ (hw _ (List.mem_of_getElem? (i := 4) rfl))) (mvT hZ (hw _ (List.mem_of_getElem? (i := 5) rfl))) (by decide) (backOf (W := 2) (rm1 l Z a0 hw [] p1 p3 (0 : Int32) fv h3 ) hZ (hw _ (List.mem_of_getElem? (i := 5) rfl)) (hw _ (List.mem_of_getElem? (i := 4) rfl)) (by decide) (by decide)) (g := (mkF m 38 #[vI p1, vI p2, vI p3, vI p4, vI p5, vI fv, vI tv, vR b3, .unset, .unset] [iI fv, iI 0, iI p3, iI p1, iI 0, iR b3])) rfl (by rw [hml]; rfl) (argsL := [(.int p1), (.int p3), (.int (0 : Int32)), (.int fv)]) (rest := [(.int (0 : Int32)), (.ref b3)]) (lenOf pd_0 rfl) rfl (by show 2 * 0 + _ ≤ _; exact Nat.le_of_eq rfl) (hb hby at_38) (fun _ _ => ⟨rfl, e3, (by decide : 1 + 0 ≤ _), (by decide : 5 + 0 ≤ _)⟩)
  dsimp only [Pt.U, Pt.locs, Pt.cells, Pt.slots] at X4 l4 y4 z4 st4 hQ4
  subst l4 y4 z4
  obtain ⟨rfl, rfl, e4⟩ := hQ4
  try rw [List.append_nil] at X4
  obtain ⟨x0, hx0⟩ : ∃ z : Int32, z = (own_pick p1 p3 (0 : Int32) fv) := ⟨_, rfl⟩
  obtain ⟨cl6, Ar6, q6, S6, M6, H6, G6⟩ := V3
  have hin7 : ¬ ((0 : Int32) < 0 ∨ cl6.slots.size ≤ ((0 : Int32)).toNatClampNeg) := inb_of S6 ⟨by decide, by decide⟩
  obtain ⟨T8, h8, X8, e8, W8, st8⟩ := stB X4 hx hZ e4 Ar6 (j := (0 : Int32)) hin7 (g := (mkF m 41 #[vI p1, vI p2, vI p3, vI p4, vI p5, vI fv, vI tv, vR b3, .unset, .unset] [iI x0, iI 0, iR b3])) rfl rfl (hb hby at_41)
  have V8 : Arv Z h8 b3 k3 .byte (5 : Int32) [(.int (nar .byte x0)), (.int (0 : Int32)), (.int (0 : Int32)), (.int (0 : Int32)), (.int (0 : Int32))] (.int (0 : Int32)) := Arv.set Ar6 q6 S6 M6 H6 G6 (fits_nar_byte _) W8 0 rfl (Nat.le_of_ble_eq_true rfl)
  have K8 : Keep h0 h8 [] := K3.wr W8 (Or.inr sz_b3)
  have N8 := Fr.snoc X8 N0 g_b3
  obtain ⟨_, _, ⟨T9, L9, k9, n9⟩, -, X9, ⟨Lc9, hQ9, l9, y9, z9⟩, st9⟩ := Jvm.LawKit.callS X8 hx (y := (⟨"com/example/tidemine/tidemine/TextFormatStartsWithByteOrderMarkPinLaw", "pick", "(IIII)B"⟩ : MethodName)) hown (mvT hZ (hw _ (List.mem_of_getElem? (i := 2) rfl))) (mvT hZ (hw _ (List.mem_of_getElem? (i := 3) rfl))) (mvT hZ (hw _ (List.mem_of_getElem? (i := 4) rfl))) (mvT hZ (hw _ (List.mem_of_getElem? (i := 5) rfl))) (by decide) (backOf (W := 2) (rm1 l Z a0 hw [] p1 p3 (1 : Int32) fv h8 ) hZ (hw _ (List.mem_of_getElem? (i := 5) rfl)) (hw _ (List.mem_of_getElem? (i := 4) rfl)) (by decide) (by decide)) (g := (mkF m 50 #[vI p1, vI p2, vI p3, vI p4, vI p5, vI fv, vI tv, vR b3, .unset, .unset] [iI fv, iI 1, iI p3, iI p1, iI 1, iR b3])) rfl (by rw [hml]; rfl) (argsL := [(.int p1), (.int p3), (.int (1 : Int32)), (.int fv)]) (rest := [(.int (1 : Int32)), (.ref b3)]) (lenOf pd_0 rfl) rfl (by show 2 * 0 + _ ≤ _; exact Nat.le_of_eq rfl) (hb hby at_50) (fun _ _ => ⟨rfl, e8, (by decide : 1 + 0 ≤ _), (by decide : 5 + 0 ≤ _)⟩)
  dsimp only [Pt.U, Pt.locs, Pt.cells, Pt.slots] at X9 l9 y9 z9 st9 hQ9
  subst l9 y9 z9
  obtain ⟨rfl, rfl, e9⟩ := hQ9
  try rw [List.append_nil] at X9
  obtain ⟨x1, hx1⟩ : ∃ z : Int32, z = (own_pick p1 p3 (1 : Int32) fv) := ⟨_, rfl⟩
  obtain ⟨cl11, Ar11, q11, S11, M11, H11, G11⟩ := V8
  have hin12 : ¬ ((1 : Int32) < 0 ∨ cl11.slots.size ≤ ((1 : Int32)).toNatClampNeg) := inb_of S11 ⟨by decide, by decide⟩
  obtain ⟨T13, h13, X13, e13, W13, st13⟩ := stB X9 hx hZ e9 Ar11 (j := (1 : Int32)) hin12 (g := (mkF m 53 #[vI p1, vI p2, vI p3, vI p4, vI p5, vI fv, vI tv, vR b3, .unset, .unset] [iI x1, iI 1, iR b3])) rfl rfl (hb hby at_53)
  have V13 : Arv Z h13 b3 k3 .byte (5 : Int32) [(.int (nar .byte x0)), (.int (nar .byte x1)), (.int (0 : Int32)), (.int (0 : Int32)), (.int (0 : Int32))] (.int (0 : Int32)) := Arv.set Ar11 q11 S11 M11 H11 G11 (fits_nar_byte _) W13 1 rfl (Nat.le_of_ble_eq_true rfl)
  have K13 : Keep h0 h13 [] := K8.wr W13 (Or.inr sz_b3)
  have N13 := Fr.snoc X13 N8 g_b3
  obtain ⟨_, _, ⟨T14, L14, k14, n14⟩, -, X14, ⟨Lc14, hQ14, l14, y14, z14⟩, st14⟩ := Jvm.LawKit.callS X13 hx (y := (⟨"com/example/tidemine/tidemine/TextFormatStartsWithByteOrderMarkPinLaw", "pick", "(IIII)B"⟩ : MethodName)) hown (mvT hZ (hw _ (List.mem_of_getElem? (i := 2) rfl))) (mvT hZ (hw _ (List.mem_of_getElem? (i := 3) rfl))) (mvT hZ (hw _ (List.mem_of_getElem? (i := 4) rfl))) (mvT hZ (hw _ (List.mem_of_getElem? (i := 5) rfl))) (by decide) (backOf (W := 2) (rm1 l Z a0 hw [] p1 p3 (2 : Int32) fv h13 ) hZ (hw _ (List.mem_of_getElem? (i := 5) rfl)) (hw _ (List.mem_of_getElem? (i := 4) rfl)) (by decide) (by decide)) (g := (mkF m 62 #[vI p1, vI p2, vI p3, vI p4, vI p5, vI fv, vI tv, vR b3, .unset, .unset] [iI fv, iI 2, iI p3, iI p1, iI 2, iR b3])) rfl (by rw [hml]; rfl) (argsL := [(.int p1), (.int p3), (.int (2 : Int32)), (.int fv)]) (rest := [(.int (2 : Int32)), (.ref b3)]) (lenOf pd_0 rfl) rfl (by show 2 * 0 + _ ≤ _; exact Nat.le_of_eq rfl) (hb hby at_62) (fun _ _ => ⟨rfl, e13, (by decide : 1 + 0 ≤ _), (by decide : 5 + 0 ≤ _)⟩)
  dsimp only [Pt.U, Pt.locs, Pt.cells, Pt.slots] at X14 l14 y14 z14 st14 hQ14
  subst l14 y14 z14
  obtain ⟨rfl, rfl, e14⟩ := hQ14
  try rw [List.append_nil] at X14
  obtain ⟨x2, hx2⟩ : ∃ z : Int32, z = (own_pick p1 p3 (2 : Int32) fv) := ⟨_, rfl⟩
  obtain ⟨cl16, Ar16, q16, S16, M16, H16, G16⟩ := V13
  have hin17 : ¬ ((2 : Int32) < 0 ∨ cl16.slots.size ≤ ((2 : Int32)).toNatClampNeg) := inb_of S16 ⟨by decide, by decide⟩
  obtain ⟨T18, h18, X18, e18, W18, st18⟩ := stB X14 hx hZ e14 Ar16 (j := (2 : Int32)) hin17 (g := (mkF m 65 #[vI p1, vI p2, vI p3, vI p4, vI p5, vI fv, vI tv, vR b3, .unset, .unset] [iI x2, iI 2, iR b3])) rfl rfl (hb hby at_65)
  have V18 : Arv Z h18 b3 k3 .byte (5 : Int32) [(.int (nar .byte x0)), (.int (nar .byte x1)), (.int (nar .byte x2)), (.int (0 : Int32)), (.int (0 : Int32))] (.int (0 : Int32)) := Arv.set Ar16 q16 S16 M16 H16 G16 (fits_nar_byte _) W18 2 rfl (Nat.le_of_ble_eq_true rfl)
  have K18 : Keep h0 h18 [] := K13.wr W18 (Or.inr sz_b3)
  have N18 := Fr.snoc X18 N13 g_b3
  obtain ⟨_, _, ⟨T19, L19, k19, n19⟩, -, X19, ⟨Lc19, hQ19, l19, y19, z19⟩, st19⟩ := Jvm.LawKit.callS X18 hx (y := (⟨"com/example/tidemine/tidemine/TextFormatStartsWithByteOrderMarkPinLaw", "pick", "(IIII)B"⟩ : MethodName)) hown (mvT hZ (hw _ (List.mem_of_getElem? (i := 2) rfl))) (mvT hZ (hw _ (List.mem_of_getElem? (i := 3) rfl))) (mvT hZ (hw _ (List.mem_of_getElem? (i := 4) rfl))) (mvT hZ (hw _ (List.mem_of_getElem? (i := 5) rfl))) (by decide) (backOf (W := 2) (rm1 l Z a0 hw [] p1 p3 (3 : Int32) fv h18 ) hZ (hw _ (List.mem_of_getElem? (i := 5) rfl)) (hw _ (List.mem_of_getElem? (i := 4) rfl)) (by decide) (by decide)) (g := (mkF m 74 #[vI p1, vI p2, vI p3, vI p4, vI p5, vI fv, vI tv, vR b3, .unset, .unset] [iI fv, iI 3, iI p3, iI p1, iI 3, iR b3])) rfl (by rw [hml]; rfl) (argsL := [(.int p1), (.int p3), (.int (3 : Int32)), (.int fv)]) (rest := [(.int (3 : Int32)), (.ref b3)]) (lenOf pd_0 rfl) rfl (by show 2 * 0 + _ ≤ _; exact Nat.le_of_eq rfl) (hb hby at_74) (fun _ _ => ⟨rfl, e18, (by decide : 1 + 0 ≤ _), (by decide : 5 + 0 ≤ _)⟩)
  dsimp only [Pt.U, Pt.locs, Pt.cells, Pt.slots] at X19 l19 y19 z19 st19 hQ19
  subst l19 y19 z19
  obtain ⟨rfl, rfl, e19⟩ := hQ19
  try rw [List.append_nil] at X19
  obtain ⟨x3, hx3⟩ : ∃ z : Int32, z = (own_pick p1 p3 (3 : Int32) fv) := ⟨_, rfl⟩
  obtain ⟨cl21, Ar21, q21, S21, M21, H21, G21⟩ := V18
  have hin22 : ¬ ((3 : Int32) < 0 ∨ cl21.slots.size ≤ ((3 : Int32)).toNatClampNeg) := inb_of S21 ⟨by decide, by decide⟩
  obtain ⟨T23, h23, X23, e23, W23, st23⟩ := stB X19 hx hZ e19 Ar21 (j := (3 : Int32)) hin22 (g := (mkF m 77 #[vI p1, vI p2, vI p3, vI p4, vI p5, vI fv, vI tv, vR b3, .unset, .unset] [iI x3, iI 3, iR b3])) rfl rfl (hb hby at_77)
  have V23 : Arv Z h23 b3 k3 .byte (5 : Int32) [(.int (nar .byte x0)), (.int (nar .byte x1)), (.int (nar .byte x2)), (.int (nar .byte x3)), (.int (0 : Int32))] (.int (0 : Int32)) := Arv.set Ar21 q21 S21 M21 H21 G21 (fits_nar_byte _) W23 3 rfl (Nat.le_of_ble_eq_true rfl)
  have K23 : Keep h0 h23 [] := K18.wr W23 (Or.inr sz_b3)
  have N23 := Fr.snoc X23 N18 g_b3
  obtain ⟨_, _, ⟨T24, L24, k24, n24⟩, -, X24, ⟨Lc24, hQ24, l24, y24, z24⟩, st24⟩ := Jvm.LawKit.callS X23 hx (y := (⟨"com/example/tidemine/tidemine/TextFormatStartsWithByteOrderMarkPinLaw", "pick", "(IIII)B"⟩ : MethodName)) hown (mvT hZ (hw _ (List.mem_of_getElem? (i := 2) rfl))) (mvT hZ (hw _ (List.mem_of_getElem? (i := 3) rfl))) (mvT hZ (hw _ (List.mem_of_getElem? (i := 4) rfl))) (mvT hZ (hw _ (List.mem_of_getElem? (i := 5) rfl))) (by decide) (backOf (W := 2) (rm1 l Z a0 hw [] p2 p3 (4 : Int32) fv h23 ) hZ (hw _ (List.mem_of_getElem? (i := 5) rfl)) (hw _ (List.mem_of_getElem? (i := 4) rfl)) (by decide) (by decide)) (g := (mkF m 86 #[vI p1, vI p2, vI p3, vI p4, vI p5, vI fv, vI tv, vR b3, .unset, .unset] [iI fv, iI 4, iI p3, iI p2, iI 4, iR b3])) rfl (by rw [hml]; rfl) (argsL := [(.int p2), (.int p3), (.int (4 : Int32)), (.int fv)]) (rest := [(.int (4 : Int32)), (.ref b3)]) (lenOf pd_0 rfl) rfl (by show 2 * 0 + _ ≤ _; exact Nat.le_of_eq rfl) (hb hby at_86) (fun _ _ => ⟨rfl, e23, (by decide : 1 + 0 ≤ _), (by decide : 5 + 0 ≤ _)⟩)
  dsimp only [Pt.U, Pt.locs, Pt.cells, Pt.slots] at X24 l24 y24 z24 st24 hQ24
  subst l24 y24 z24
  obtain ⟨rfl, rfl, e24⟩ := hQ24
  try rw [List.append_nil] at X24
  obtain ⟨x4, hx4⟩ : ∃ z : Int32, z = (own_pick p2 p3 (4 : Int32) fv) := ⟨_, rfl⟩
  obtain ⟨cl26, Ar26, q26, S26, M26, H26, G26⟩ := V23
  have hin27 : ¬ ((4 : Int32) < 0 ∨ cl26.slots.size ≤ ((4 : Int32)).toNatClampNeg) := inb_of S26 ⟨by decide, by decide⟩
  obtain ⟨T28, h28, X28, e28, W28, st28⟩ := stB X24 hx hZ e24 Ar26 (j := (4 : Int32)) hin27 (g := (mkF m 89 #[vI p1, vI p2, vI p3, vI p4, vI p5, vI fv, vI tv, vR b3, .unset, .unset] [iI x4, iI 4, iR b3])) rfl rfl (hb hby at_89)
  have V28 : Arv Z h28 b3 k3 .byte (5 : Int32) [(.int (nar .byte x0)), (.int (nar .byte x1)), (.int (nar .byte x2)), (.int (nar .byte x3)), (.int (nar .byte x4))] (.int (0 : Int32)) := Arv.set Ar26 q26 S26 M26 H26 G26 (fits_nar_byte _) W28 4 rfl (Nat.le_of_ble_eq_true rfl)
  have K28 : Keep h0 h28 [] := K23.wr W28 (Or.inr sz_b3)
  have N28 := Fr.snoc X28 N23 g_b3
  have pre29 : ∀ t, Steps p.tables e below (T28.setTop (mkF m 90 #[vI p1, vI p2, vI p3, vI p4, vI p5, vI fv, vI tv, vR b3, .unset, .unset] [])) t → Steps p.tables e below (s₁.setTop (entryFrame m #[(.int p1), (.int p2), (.int p3), (.int p4), (.int p5)] maxLocals)) t := by
    intro t kt
    refine pre0 t ?_
    show Steps _ _ _ (s₁.setTop (mkF m 0 #[vI p1, vI p2, vI p3, vI p4, vI p5, .unset, .unset, .unset, .unset, .unset] [])) _
    refine XS.iloadN X0.here hx rfl (hb hby at_0) rfl ?_
    show Steps _ _ _ (s₁.setTop (mkF m 1 #[vI p1, vI p2, vI p3, vI p4, vI p5, .unset, .unset, .unset, .unset, .unset] [iI p4])) _
    refine X0.ldcInt hx hown (mvT hZ (hw _ (List.mem_of_getElem? (i := 0) rfl))) (g := (mkF m 1 #[vI p1, vI p2, vI p3, vI p4, vI p5, .unset, .unset, .unset, .unset, .unset] [iI p4])) rfl (hb hby at_1) _ ?_
    show Steps _ _ _ (s₁.setTop (mkF m 3 #[vI p1, vI p2, vI p3, vI p4, vI p5, .unset, .unset, .unset, .unset, .unset] [iI 2147483647, iI p4])) _
    refine XS.iand X0.here hx rfl (hb hby at_3) rfl ?_
    show Steps _ _ _ (s₁.setTop (mkF m 4 #[vI p1, vI p2, vI p3, vI p4, vI p5, .unset, .unset, .unset, .unset, .unset] [iI (p4 &&& (2147483647 : Int32))])) _
    refine XS.bipush X0.here hx rfl (hb hby at_4) ?_
    show Steps _ _ _ (s₁.setTop (mkF m 6 #[vI p1, vI p2, vI p3, vI p4, vI p5, .unset, .unset, .unset, .unset, .unset] [iI 6, iI (p4 &&& (2147483647 : Int32))])) _
    refine iremM X0 hx rfl (hb hby at_6) rfl (by decide) ?_
    show Steps _ _ _ (s₁.setTop (mkF m 7 #[vI p1, vI p2, vI p3, vI p4, vI p5, .unset, .unset, .unset, .unset, .unset] [iI ((p4 &&& (2147483647 : Int32)) % (6 : Int32))])) _
    refine XS.istore X0.here hx rfl (hb hby at_7) rfl (l' := #[vI p1, vI p2, vI p3, vI p4, vI p5, vI ((p4 &&& (2147483647 : Int32)) % (6 : Int32)), .unset, .unset, .unset, .unset]) rfl ?_
    rw [← hfv]
    show Steps _ _ _ (s₁.setTop (mkF m 9 #[vI p1, vI p2, vI p3, vI p4, vI p5, vI fv, .unset, .unset, .unset, .unset] [])) _
    refine XS.iload X0.here hx rfl (hb hby at_9) rfl ?_
    show Steps _ _ _ (s₁.setTop (mkF m 11 #[vI p1, vI p2, vI p3, vI p4, vI p5, vI fv, .unset, .unset, .unset, .unset] [iI fv])) _
    refine XS.iload X0.here hx rfl (hb hby at_11) rfl ?_
    show Steps _ _ _ (s₁.setTop (mkF m 13 #[vI p1, vI p2, vI p3, vI p4, vI p5, vI fv, .unset, .unset, .unset, .unset] [iI p5, iI fv])) _
    refine X0.ldcInt hx hown (mvT hZ (hw _ (List.mem_of_getElem? (i := 0) rfl))) (g := (mkF m 13 #[vI p1, vI p2, vI p3, vI p4, vI p5, vI fv, .unset, .unset, .unset, .unset] [iI p5, iI fv])) rfl (hb hby at_13) _ ?_
    show Steps _ _ _ (s₁.setTop (mkF m 15 #[vI p1, vI p2, vI p3, vI p4, vI p5, vI fv, .unset, .unset, .unset, .unset] [iI 2147483647, iI p5, iI fv])) _
    refine XS.iand X0.here hx rfl (hb hby at_15) rfl ?_
    show Steps _ _ _ (s₁.setTop (mkF m 16 #[vI p1, vI p2, vI p3, vI p4, vI p5, vI fv, .unset, .unset, .unset, .unset] [iI (p5 &&& (2147483647 : Int32)), iI fv])) _
    refine XS.bipush X0.here hx rfl (hb hby at_16) ?_
    show Steps _ _ _ (s₁.setTop (mkF m 18 #[vI p1, vI p2, vI p3, vI p4, vI p5, vI fv, .unset, .unset, .unset, .unset] [iI 6, iI (p5 &&& (2147483647 : Int32)), iI fv])) _
    refine XS.iload X0.here hx rfl (hb hby at_18) rfl ?_
    show Steps _ _ _ (s₁.setTop (mkF m 20 #[vI p1, vI p2, vI p3, vI p4, vI p5, vI fv, .unset, .unset, .unset, .unset] [iI fv, iI 6, iI (p5 &&& (2147483647 : Int32)), iI fv])) _
    refine XS.isub X0.here hx rfl (hb hby at_20) rfl ?_
    show Steps _ _ _ (s₁.setTop (mkF m 21 #[vI p1, vI p2, vI p3, vI p4, vI p5, vI fv, .unset, .unset, .unset, .unset] [iI ((6 : Int32) - fv), iI (p5 &&& (2147483647 : Int32)), iI fv])) _
    refine iremM X0 hx rfl (hb hby at_21) rfl (by rcases qfv with rfl | rfl | rfl | rfl | rfl | rfl <;> decide) ?_
    show Steps _ _ _ (s₁.setTop (mkF m 22 #[vI p1, vI p2, vI p3, vI p4, vI p5, vI fv, .unset, .unset, .unset, .unset] [iI ((p5 &&& (2147483647 : Int32)) % ((6 : Int32) - fv)), iI fv])) _
    refine XS.iadd X0.here hx rfl (hb hby at_22) rfl ?_
    show Steps _ _ _ (s₁.setTop (mkF m 23 #[vI p1, vI p2, vI p3, vI p4, vI p5, vI fv, .unset, .unset, .unset, .unset] [iI (fv + ((p5 &&& (2147483647 : Int32)) % ((6 : Int32) - fv)))])) _
    refine XS.istore X0.here hx rfl (hb hby at_23) rfl (l' := #[vI p1, vI p2, vI p3, vI p4, vI p5, vI fv, vI (fv + ((p5 &&& (2147483647 : Int32)) % ((6 : Int32) - fv))), .unset, .unset, .unset]) rfl ?_
    rw [← htv]
    show Steps _ _ _ (s₁.setTop (mkF m 25 #[vI p1, vI p2, vI p3, vI p4, vI p5, vI fv, vI tv, .unset, .unset, .unset] [])) _
    refine XS.iconst X0.here hx rfl (hb hby at_25) ?_
    show Steps _ _ _ (s₁.setTop (mkF m 26 #[vI p1, vI p2, vI p3, vI p4, vI p5, vI fv, vI tv, .unset, .unset, .unset] [iI 5])) _
    refine st3 _ ?_
    show Steps _ _ _ (T3.setTop (mkF m 28 #[vI p1, vI p2, vI p3, vI p4, vI p5, vI fv, vI tv, .unset, .unset, .unset] [iR b3])) _
    refine XS.astore X3.here hx rfl (hb hby at_28) rfl rfl (l' := #[vI p1, vI p2, vI p3, vI p4, vI p5, vI fv, vI tv, vR b3, .unset, .unset]) rfl ?_
    show Steps _ _ _ (T3.setTop (mkF m 30 #[vI p1, vI p2, vI p3, vI p4, vI p5, vI fv, vI tv, vR b3, .unset, .unset] [])) _
    refine XS.aload X3.here hx rfl (hb hby at_30) rfl rfl ?_
    show Steps _ _ _ (T3.setTop (mkF m 32 #[vI p1, vI p2, vI p3, vI p4, vI p5, vI fv, vI tv, vR b3, .unset, .unset] [iR b3])) _
    refine XS.iconst X3.here hx rfl (hb hby at_32) ?_
    show Steps _ _ _ (T3.setTop (mkF m 33 #[vI p1, vI p2, vI p3, vI p4, vI p5, vI fv, vI tv, vR b3, .unset, .unset] [iI 0, iR b3])) _
    refine XS.iloadN X3.here hx rfl (hb hby at_33) rfl ?_
    show Steps _ _ _ (T3.setTop (mkF m 34 #[vI p1, vI p2, vI p3, vI p4, vI p5, vI fv, vI tv, vR b3, .unset, .unset] [iI p1, iI 0, iR b3])) _
    refine XS.iloadN X3.here hx rfl (hb hby at_34) rfl ?_
    show Steps _ _ _ (T3.setTop (mkF m 35 #[vI p1, vI p2, vI p3, vI p4, vI p5, vI fv, vI tv, vR b3, .unset, .unset] [iI p3, iI p1, iI 0, iR b3])) _
    refine XS.iconst X3.here hx rfl (hb hby at_35) ?_
    show Steps _ _ _ (T3.setTop (mkF m 36 #[vI p1, vI p2, vI p3, vI p4, vI p5, vI fv, vI tv, vR b3, .unset, .unset] [iI 0, iI p3, iI p1, iI 0, iR b3])) _
    refine XS.iload X3.here hx rfl (hb hby at_36) rfl ?_
    show Steps _ _ _ (T3.setTop (mkF m 38 #[vI p1, vI p2, vI p3, vI p4, vI p5, vI fv, vI tv, vR b3, .unset, .unset] [iI fv, iI 0, iI p3, iI p1, iI 0, iR b3])) _
    refine st4 _ ?_
    rw [← hx0]
    show Steps _ _ _ (T4.setTop (mkF m 41 #[vI p1, vI p2, vI p3, vI p4, vI p5, vI fv, vI tv, vR b3, .unset, .unset] [iI x0, iI 0, iR b3])) _
    refine st8 _ ?_
    show Steps _ _ _ (T8.setTop (mkF m 42 #[vI p1, vI p2, vI p3, vI p4, vI p5, vI fv, vI tv, vR b3, .unset, .unset] [])) _
    refine XS.aload X8.here hx rfl (hb hby at_42) rfl rfl ?_
    show Steps _ _ _ (T8.setTop (mkF m 44 #[vI p1, vI p2, vI p3, vI p4, vI p5, vI fv, vI tv, vR b3, .unset, .unset] [iR b3])) _
    refine XS.iconst X8.here hx rfl (hb hby at_44) ?_
    show Steps _ _ _ (T8.setTop (mkF m 45 #[vI p1, vI p2, vI p3, vI p4, vI p5, vI fv, vI tv, vR b3, .unset, .unset] [iI 1, iR b3])) _
    refine XS.iloadN X8.here hx rfl (hb hby at_45) rfl ?_
    show Steps _ _ _ (T8.setTop (mkF m 46 #[vI p1, vI p2, vI p3, vI p4, vI p5, vI fv, vI tv, vR b3, .unset, .unset] [iI p1, iI 1, iR b3])) _
    refine XS.iloadN X8.here hx rfl (hb hby at_46) rfl ?_
    show Steps _ _ _ (T8.setTop (mkF m 47 #[vI p1, vI p2, vI p3, vI p4, vI p5, vI fv, vI tv, vR b3, .unset, .unset] [iI p3, iI p1, iI 1, iR b3])) _
    refine XS.iconst X8.here hx rfl (hb hby at_47) ?_
    show Steps _ _ _ (T8.setTop (mkF m 48 #[vI p1, vI p2, vI p3, vI p4, vI p5, vI fv, vI tv, vR b3, .unset, .unset] [iI 1, iI p3, iI p1, iI 1, iR b3])) _
    refine XS.iload X8.here hx rfl (hb hby at_48) rfl ?_
    show Steps _ _ _ (T8.setTop (mkF m 50 #[vI p1, vI p2, vI p3, vI p4, vI p5, vI fv, vI tv, vR b3, .unset, .unset] [iI fv, iI 1, iI p3, iI p1, iI 1, iR b3])) _
    refine st9 _ ?_
    rw [← hx1]
    show Steps _ _ _ (T9.setTop (mkF m 53 #[vI p1, vI p2, vI p3, vI p4, vI p5, vI fv, vI tv, vR b3, .unset, .unset] [iI x1, iI 1, iR b3])) _
    refine st13 _ ?_
    show Steps _ _ _ (T13.setTop (mkF m 54 #[vI p1, vI p2, vI p3, vI p4, vI p5, vI fv, vI tv, vR b3, .unset, .unset] [])) _
    refine XS.aload X13.here hx rfl (hb hby at_54) rfl rfl ?_
    show Steps _ _ _ (T13.setTop (mkF m 56 #[vI p1, vI p2, vI p3, vI p4, vI p5, vI fv, vI tv, vR b3, .unset, .unset] [iR b3])) _
    refine XS.iconst X13.here hx rfl (hb hby at_56) ?_
    show Steps _ _ _ (T13.setTop (mkF m 57 #[vI p1, vI p2, vI p3, vI p4, vI p5, vI fv, vI tv, vR b3, .unset, .unset] [iI 2, iR b3])) _
    refine XS.iloadN X13.here hx rfl (hb hby at_57) rfl ?_
    show Steps _ _ _ (T13.setTop (mkF m 58 #[vI p1, vI p2, vI p3, vI p4, vI p5, vI fv, vI tv, vR b3, .unset, .unset] [iI p1, iI 2, iR b3])) _
    refine XS.iloadN X13.here hx rfl (hb hby at_58) rfl ?_
    show Steps _ _ _ (T13.setTop (mkF m 59 #[vI p1, vI p2, vI p3, vI p4, vI p5, vI fv, vI tv, vR b3, .unset, .unset] [iI p3, iI p1, iI 2, iR b3])) _
    refine XS.iconst X13.here hx rfl (hb hby at_59) ?_
    show Steps _ _ _ (T13.setTop (mkF m 60 #[vI p1, vI p2, vI p3, vI p4, vI p5, vI fv, vI tv, vR b3, .unset, .unset] [iI 2, iI p3, iI p1, iI 2, iR b3])) _
    refine XS.iload X13.here hx rfl (hb hby at_60) rfl ?_
    show Steps _ _ _ (T13.setTop (mkF m 62 #[vI p1, vI p2, vI p3, vI p4, vI p5, vI fv, vI tv, vR b3, .unset, .unset] [iI fv, iI 2, iI p3, iI p1, iI 2, iR b3])) _
    refine st14 _ ?_
    rw [← hx2]
    show Steps _ _ _ (T14.setTop (mkF m 65 #[vI p1, vI p2, vI p3, vI p4, vI p5, vI fv, vI tv, vR b3, .unset, .unset] [iI x2, iI 2, iR b3])) _
    refine st18 _ ?_
    show Steps _ _ _ (T18.setTop (mkF m 66 #[vI p1, vI p2, vI p3, vI p4, vI p5, vI fv, vI tv, vR b3, .unset, .unset] [])) _
    refine XS.aload X18.here hx rfl (hb hby at_66) rfl rfl ?_
    show Steps _ _ _ (T18.setTop (mkF m 68 #[vI p1, vI p2, vI p3, vI p4, vI p5, vI fv, vI tv, vR b3, .unset, .unset] [iR b3])) _
    refine XS.iconst X18.here hx rfl (hb hby at_68) ?_
    show Steps _ _ _ (T18.setTop (mkF m 69 #[vI p1, vI p2, vI p3, vI p4, vI p5, vI fv, vI tv, vR b3, .unset, .unset] [iI 3, iR b3])) _
    refine XS.iloadN X18.here hx rfl (hb hby at_69) rfl ?_
    show Steps _ _ _ (T18.setTop (mkF m 70 #[vI p1, vI p2, vI p3, vI p4, vI p5, vI fv, vI tv, vR b3, .unset, .unset] [iI p1, iI 3, iR b3])) _
    refine XS.iloadN X18.here hx rfl (hb hby at_70) rfl ?_
    show Steps _ _ _ (T18.setTop (mkF m 71 #[vI p1, vI p2, vI p3, vI p4, vI p5, vI fv, vI tv, vR b3, .unset, .unset] [iI p3, iI p1, iI 3, iR b3])) _
    refine XS.iconst X18.here hx rfl (hb hby at_71) ?_
    show Steps _ _ _ (T18.setTop (mkF m 72 #[vI p1, vI p2, vI p3, vI p4, vI p5, vI fv, vI tv, vR b3, .unset, .unset] [iI 3, iI p3, iI p1, iI 3, iR b3])) _
    refine XS.iload X18.here hx rfl (hb hby at_72) rfl ?_
    show Steps _ _ _ (T18.setTop (mkF m 74 #[vI p1, vI p2, vI p3, vI p4, vI p5, vI fv, vI tv, vR b3, .unset, .unset] [iI fv, iI 3, iI p3, iI p1, iI 3, iR b3])) _
    refine st19 _ ?_
    rw [← hx3]
    show Steps _ _ _ (T19.setTop (mkF m 77 #[vI p1, vI p2, vI p3, vI p4, vI p5, vI fv, vI tv, vR b3, .unset, .unset] [iI x3, iI 3, iR b3])) _
    refine st23 _ ?_
    show Steps _ _ _ (T23.setTop (mkF m 78 #[vI p1, vI p2, vI p3, vI p4, vI p5, vI fv, vI tv, vR b3, .unset, .unset] [])) _
    refine XS.aload X23.here hx rfl (hb hby at_78) rfl rfl ?_
    show Steps _ _ _ (T23.setTop (mkF m 80 #[vI p1, vI p2, vI p3, vI p4, vI p5, vI fv, vI tv, vR b3, .unset, .unset] [iR b3])) _
    refine XS.iconst X23.here hx rfl (hb hby at_80) ?_
    show Steps _ _ _ (T23.setTop (mkF m 81 #[vI p1, vI p2, vI p3, vI p4, vI p5, vI fv, vI tv, vR b3, .unset, .unset] [iI 4, iR b3])) _
    refine XS.iloadN X23.here hx rfl (hb hby at_81) rfl ?_
    show Steps _ _ _ (T23.setTop (mkF m 82 #[vI p1, vI p2, vI p3, vI p4, vI p5, vI fv, vI tv, vR b3, .unset, .unset] [iI p2, iI 4, iR b3])) _
    refine XS.iloadN X23.here hx rfl (hb hby at_82) rfl ?_
    show Steps _ _ _ (T23.setTop (mkF m 83 #[vI p1, vI p2, vI p3, vI p4, vI p5, vI fv, vI tv, vR b3, .unset, .unset] [iI p3, iI p2, iI 4, iR b3])) _
    refine XS.iconst X23.here hx rfl (hb hby at_83) ?_
    show Steps _ _ _ (T23.setTop (mkF m 84 #[vI p1, vI p2, vI p3, vI p4, vI p5, vI fv, vI tv, vR b3, .unset, .unset] [iI 4, iI p3, iI p2, iI 4, iR b3])) _
    refine XS.iload X23.here hx rfl (hb hby at_84) rfl ?_
    show Steps _ _ _ (T23.setTop (mkF m 86 #[vI p1, vI p2, vI p3, vI p4, vI p5, vI fv, vI tv, vR b3, .unset, .unset] [iI fv, iI 4, iI p3, iI p2, iI 4, iR b3])) _
    refine st24 _ ?_
    rw [← hx4]
    show Steps _ _ _ (T24.setTop (mkF m 89 #[vI p1, vI p2, vI p3, vI p4, vI p5, vI fv, vI tv, vR b3, .unset, .unset] [iI x4, iI 4, iR b3])) _
    refine st28 _ ?_
    exact kt
  rcases qfv with rfl | rfl | rfl | rfl | rfl | rfl
  · have fk31 := ((((((S_B.ext E3).wr W8).wr W13).wr W18).wr W23).wr W28)
    have fk32 := ((((((V_B.ext E3).other W8 ne_s_B_b3).other W13 ne_s_B_b3).other W18 ne_s_B_b3).other W23 ne_s_B_b3).other W28 ne_s_B_b3)
    obtain ⟨_, _, ⟨T30, L30, k30, n30⟩, -, X30, ⟨Lc30, hQ30, l30, y30, z30⟩, st30⟩ := Jvm.LawKit.callS X28 hx (y := (⟨"com/example/tidemine/tidemine/TextFormat", "startsWithByteOrderMark", "([BII)Z"⟩ : MethodName)) hown (mvT hZ (hw _ (List.mem_of_getElem? (i := 6) rfl))) (mvT hZ (hw _ (List.mem_of_getElem? (i := 7) rfl))) (mvT hZ (hw _ (List.mem_of_getElem? (i := 8) rfl))) (mvT hZ (hw _ (List.mem_of_getElem? (i := 9) rfl))) (by decide) (backOf (W := 0) (rm2_0 l Z a0 hw [] b3 tv (nar .byte x0) (nar .byte x1) (nar .byte x2) (nar .byte x3) (nar .byte x4) k3 s_B kB h28 fk31 fk32 V28) hZ (hw _ (List.mem_of_getElem? (i := 9) rfl)) (hw _ (List.mem_of_getElem? (i := 8) rfl)) (by decide) (by decide)) (g := (mkF m 96 #[vI p1, vI p2, vI p3, vI p4, vI p5, vI 0, vI tv, vR b3, .unset, .unset] [iI tv, iI 0, iR b3])) rfl (by rw [hml]; rfl) (argsL := [(.ref b3), (.int (0 : Int32)), (.int tv)]) (rest := []) (lenOf pd_1 rfl) rfl (by show 2 * 0 + _ ≤ _; exact Nat.le_of_eq rfl) (hb hby at_96) (fun _ _ => ⟨rfl, e28, (by decide : 1 + 0 ≤ _), (by decide : 5 + 0 ≤ _)⟩)
    dsimp only [Pt.U, Pt.locs, Pt.cells, Pt.slots] at X30 l30 y30 z30 st30 hQ30
    subst l30 y30 z30
    obtain ⟨rfl, rfl, e30⟩ := hQ30
    try rw [List.append_nil] at X30
    obtain ⟨v33, hv33⟩ : ∃ z : Int32, z = (own_sw_0 tv (nar .byte x0) (nar .byte x1) (nar .byte x2) (nar .byte x3) (nar .byte x4)) := ⟨_, rfl⟩
    obtain ⟨v34, hv34⟩ : ∃ z : Int32, z = (if (tv - (0 : Int32)) < (3 : Int32) then (0 : Int32) else (if ((nar .byte x0) &&& (255 : Int32)) = (239 : Int32) then (if ((nar .byte x1) &&& (255 : Int32)) = (187 : Int32) then (if ((nar .byte x2) &&& (255 : Int32)) = (191 : Int32) then (1 : Int32) else (0 : Int32)) else (0 : Int32)) else (0 : Int32))) := ⟨_, rfl⟩
    obtain ⟨T35, X35, e35, st35⟩ : own_Mid X30 h28 (mkF m 107 #[vI p1, vI p2, vI p3, vI p4, vI p5, vI 0, vI tv, vR b3, vI v33, .unset] [iI 3, iI (tv - (0 : Int32))]) (mkF m 172 #[vI p1, vI p2, vI p3, vI p4, vI p5, vI 0, vI tv, vR b3, vI v33, vI v34] []) := by
      by_cases hc36 : (tv - (0 : Int32)) < (3 : Int32)
      · refine ⟨T30, X30, e30, fun t kt => ?_⟩
        subst hv34
        simp only [if_pos hc36] at kt
        show Steps _ _ _ (T30.setTop (mkF m 107 #[vI p1, vI p2, vI p3, vI p4, vI p5, vI 0, vI tv, vR b3, vI v33, .unset] [iI 3, iI (tv - (0 : Int32))])) _
        refine XS.icmpNo X30.here hx rfl (hb hby at_107) rfl (tlt hc36).2.1 ?_
        show Steps _ _ _ (T30.setTop (mkF m 110 #[vI p1, vI p2, vI p3, vI p4, vI p5, vI 0, vI tv, vR b3, vI v33, .unset] [])) _
        refine XS.iconst X30.here hx rfl (hb hby at_110) ?_
        show Steps _ _ _ (T30.setTop (mkF m 111 #[vI p1, vI p2, vI p3, vI p4, vI p5, vI 0, vI tv, vR b3, vI v33, .unset] [iI 0])) _
        refine XS.istore X30.here hx rfl (hb hby at_111) rfl (l' := #[vI p1, vI p2, vI p3, vI p4, vI p5, vI 0, vI tv, vR b3, vI v33, vI 0]) rfl ?_
        show Steps _ _ _ (T30.setTop (mkF m 113 #[vI p1, vI p2, vI p3, vI p4, vI p5, vI 0, vI tv, vR b3, vI v33, vI 0] [])) _
        refine XS.goto X30.here hx rfl (pc0 := 113) (pc' := 172) rfl (hb hby at_113) (by decide) (by decide) ?_
        exact kt
      · obtain ⟨cl37, Ar37, q37, S37, M37, H37, G37⟩ := V28
        have hin38 : ¬ ((0 : Int32) < 0 ∨ cl37.slots.size ≤ ((0 : Int32)).toNatClampNeg) := inb_of S37 ⟨by decide, by decide⟩
        have hat39 : cl37.slots[((0 : Int32)).toNatClampNeg]? = some (.int (nar .byte x0)) := Has.at H37 hin38 rfl
        obtain ⟨v40, hv40⟩ : ∃ z : Int32, z = (if ((nar .byte x0) &&& (255 : Int32)) = (239 : Int32) then (if ((nar .byte x1) &&& (255 : Int32)) = (187 : Int32) then (if ((nar .byte x2) &&& (255 : Int32)) = (191 : Int32) then (1 : Int32) else (0 : Int32)) else (0 : Int32)) else (0 : Int32)) := ⟨_, rfl⟩
        obtain ⟨T41, X41, e41, st41⟩ : own_Mid X30 h28 (mkF m 128 #[vI p1, vI p2, vI p3, vI p4, vI p5, vI 0, vI tv, vR b3, vI v33, .unset] [iI 239, iI ((nar .byte x0) &&& (255 : Int32))]) (mkF m 170 #[vI p1, vI p2, vI p3, vI p4, vI p5, vI 0, vI tv, vR b3, vI v33, .unset] [iI v40]) := by
          by_cases hc42 : ((nar .byte x0) &&& (255 : Int32)) = (239 : Int32)
          · have hin43 : ¬ ((1 : Int32) < 0 ∨ cl37.slots.size ≤ ((1 : Int32)).toNatClampNeg) := inb_of S37 ⟨by decide, by decide⟩
            have hat44 : cl37.slots[((1 : Int32)).toNatClampNeg]? = some (.int (nar .byte x1)) := Has.at H37 hin43 rfl
            have pre46 : ∀ t, Steps p.tables e below (T30.setTop (mkF m 145 #[vI p1, vI p2, vI p3, vI p4, vI p5, vI 0, vI tv, vR b3, vI v33, .unset] [iI 187, iI ((nar .byte x1) &&& (255 : Int32))])) t → Steps p.tables e below (T30.setTop (mkF m 128 #[vI p1, vI p2, vI p3, vI p4, vI p5, vI 0, vI tv, vR b3, vI v33, .unset] [iI 239, iI ((nar .byte x0) &&& (255 : Int32))])) t := by
              intro t kt
              show Steps _ _ _ (T30.setTop (mkF m 128 #[vI p1, vI p2, vI p3, vI p4, vI p5, vI 0, vI tv, vR b3, vI v33, .unset] [iI 239, iI ((nar .byte x0) &&& (255 : Int32))])) _
              refine XS.icmpNo X30.here hx rfl (hb hby at_128) rfl (teq hc42).2 ?_
              show Steps _ _ _ (T30.setTop (mkF m 131 #[vI p1, vI p2, vI p3, vI p4, vI p5, vI 0, vI tv, vR b3, vI v33, .unset] [])) _
              refine XS.aload X30.here hx rfl (hb hby at_131) rfl rfl ?_
              show Steps _ _ _ (T30.setTop (mkF m 133 #[vI p1, vI p2, vI p3, vI p4, vI p5, vI 0, vI tv, vR b3, vI v33, .unset] [iR b3])) _
              refine XS.iload X30.here hx rfl (hb hby at_133) rfl ?_
              show Steps _ _ _ (T30.setTop (mkF m 135 #[vI p1, vI p2, vI p3, vI p4, vI p5, vI 0, vI tv, vR b3, vI v33, .unset] [iI 0, iR b3])) _
              refine XS.iconst X30.here hx rfl (hb hby at_135) ?_
              show Steps _ _ _ (T30.setTop (mkF m 136 #[vI p1, vI p2, vI p3, vI p4, vI p5, vI 0, vI tv, vR b3, vI v33, .unset] [iI 1, iI 0, iR b3])) _
              refine XS.iadd X30.here hx rfl (hb hby at_136) rfl ?_
              rw [(by decide : ((0 : Int32) + (1 : Int32)) = (1 : Int32))]
              show Steps _ _ _ (T30.setTop (mkF m 137 #[vI p1, vI p2, vI p3, vI p4, vI p5, vI 0, vI tv, vR b3, vI v33, .unset] [iI 1, iR b3])) _
              refine X30.baloadBytes hx (j := (1 : Int32)) (v := (.int (nar .byte x1))) (by rw [e30]; exact Ar37.1) (State.isArrayOf_alike hZ.alike Ar37.2.1) Ar37.2.2 hin43 hat44 (g := (mkF m 137 #[vI p1, vI p2, vI p3, vI p4, vI p5, vI 0, vI tv, vR b3, vI v33, .unset] [iI 1, iR b3])) rfl rfl (hb hby at_137) _ ?_
              show Steps _ _ _ (T30.setTop (mkF m 138 #[vI p1, vI p2, vI p3, vI p4, vI p5, vI 0, vI tv, vR b3, vI v33, .unset] [iI (nar .byte x1)])) _
              refine XS.sipush X30.here hx rfl (hb hby at_138) ?_
              show Steps _ _ _ (T30.setTop (mkF m 141 #[vI p1, vI p2, vI p3, vI p4, vI p5, vI 0, vI tv, vR b3, vI v33, .unset] [iI 255, iI (nar .byte x1)])) _
              refine XS.iand X30.here hx rfl (hb hby at_141) rfl ?_
              show Steps _ _ _ (T30.setTop (mkF m 142 #[vI p1, vI p2, vI p3, vI p4, vI p5, vI 0, vI tv, vR b3, vI v33, .unset] [iI ((nar .byte x1) &&& (255 : Int32))])) _
              refine XS.sipush X30.here hx rfl (hb hby at_142) ?_
              exact kt
            by_cases hc45 : ((nar .byte x1) &&& (255 : Int32)) = (187 : Int32)
            · have hin47 : ¬ ((2 : Int32) < 0 ∨ cl37.slots.size ≤ ((2 : Int32)).toNatClampNeg) := inb_of S37 ⟨by decide, by decide⟩
              have hat48 : cl37.slots[((2 : Int32)).toNatClampNeg]? = some (.int (nar .byte x2)) := Has.at H37 hin47 rfl
              have pre50 : ∀ t, Steps p.tables e below (T30.setTop (mkF m 162 #[vI p1, vI p2, vI p3, vI p4, vI p5, vI 0, vI tv, vR b3, vI v33, .unset] [iI 191, iI ((nar .byte x2) &&& (255 : Int32))])) t → Steps p.tables e below (T30.setTop (mkF m 128 #[vI p1, vI p2, vI p3, vI p4, vI p5, vI 0, vI tv, vR b3, vI v33, .unset] [iI 239, iI ((nar .byte x0) &&& (255 : Int32))])) t := by
                intro t kt
                refine pre46 t ?_
                show Steps _ _ _ (T30.setTop (mkF m 145 #[vI p1, vI p2, vI p3, vI p4, vI p5, vI 0, vI tv, vR b3, vI v33, .unset] [iI 187, iI ((nar .byte x1) &&& (255 : Int32))])) _
                refine XS.icmpNo X30.here hx rfl (hb hby at_145) rfl (teq hc45).2 ?_
                show Steps _ _ _ (T30.setTop (mkF m 148 #[vI p1, vI p2, vI p3, vI p4, vI p5, vI 0, vI tv, vR b3, vI v33, .unset] [])) _
                refine XS.aload X30.here hx rfl (hb hby at_148) rfl rfl ?_
                show Steps _ _ _ (T30.setTop (mkF m 150 #[vI p1, vI p2, vI p3, vI p4, vI p5, vI 0, vI tv, vR b3, vI v33, .unset] [iR b3])) _
                refine XS.iload X30.here hx rfl (hb hby at_150) rfl ?_
                show Steps _ _ _ (T30.setTop (mkF m 152 #[vI p1, vI p2, vI p3, vI p4, vI p5, vI 0, vI tv, vR b3, vI v33, .unset] [iI 0, iR b3])) _
                refine XS.iconst X30.here hx rfl (hb hby at_152) ?_
                show Steps _ _ _ (T30.setTop (mkF m 153 #[vI p1, vI p2, vI p3, vI p4, vI p5, vI 0, vI tv, vR b3, vI v33, .unset] [iI 2, iI 0, iR b3])) _
                refine XS.iadd X30.here hx rfl (hb hby at_153) rfl ?_
                rw [(by decide : ((0 : Int32) + (2 : Int32)) = (2 : Int32))]
                show Steps _ _ _ (T30.setTop (mkF m 154 #[vI p1, vI p2, vI p3, vI p4, vI p5, vI 0, vI tv, vR b3, vI v33, .unset] [iI 2, iR b3])) _
                refine X30.baloadBytes hx (j := (2 : Int32)) (v := (.int (nar .byte x2))) (by rw [e30]; exact Ar37.1) (State.isArrayOf_alike hZ.alike Ar37.2.1) Ar37.2.2 hin47 hat48 (g := (mkF m 154 #[vI p1, vI p2, vI p3, vI p4, vI p5, vI 0, vI tv, vR b3, vI v33, .unset] [iI 2, iR b3])) rfl rfl (hb hby at_154) _ ?_
                show Steps _ _ _ (T30.setTop (mkF m 155 #[vI p1, vI p2, vI p3, vI p4, vI p5, vI 0, vI tv, vR b3, vI v33, .unset] [iI (nar .byte x2)])) _
                refine XS.sipush X30.here hx rfl (hb hby at_155) ?_
                show Steps _ _ _ (T30.setTop (mkF m 158 #[vI p1, vI p2, vI p3, vI p4, vI p5, vI 0, vI tv, vR b3, vI v33, .unset] [iI 255, iI (nar .byte x2)])) _
                refine XS.iand X30.here hx rfl (hb hby at_158) rfl ?_
                show Steps _ _ _ (T30.setTop (mkF m 159 #[vI p1, vI p2, vI p3, vI p4, vI p5, vI 0, vI tv, vR b3, vI v33, .unset] [iI ((nar .byte x2) &&& (255 : Int32))])) _
                refine XS.sipush X30.here hx rfl (hb hby at_159) ?_
                exact kt
              by_cases hc49 : ((nar .byte x2) &&& (255 : Int32)) = (191 : Int32)
              · refine ⟨T30, X30, e30, fun t kt => ?_⟩
                subst hv40
                simp only [if_pos hc42, if_pos hc45, if_pos hc49] at kt
                refine pre50 t ?_
                show Steps _ _ _ (T30.setTop (mkF m 162 #[vI p1, vI p2, vI p3, vI p4, vI p5, vI 0, vI tv, vR b3, vI v33, .unset] [iI 191, iI ((nar .byte x2) &&& (255 : Int32))])) _
                refine XS.icmpNo X30.here hx rfl (hb hby at_162) rfl (teq hc49).2 ?_
                show Steps _ _ _ (T30.setTop (mkF m 165 #[vI p1, vI p2, vI p3, vI p4, vI p5, vI 0, vI tv, vR b3, vI v33, .unset] [])) _
                refine XS.iconst X30.here hx rfl (hb hby at_165) ?_
                show Steps _ _ _ (T30.setTop (mkF m 166 #[vI p1, vI p2, vI p3, vI p4, vI p5, vI 0, vI tv, vR b3, vI v33, .unset] [iI 1])) _
                refine XS.goto X30.here hx rfl (pc0 := 166) (pc' := 170) rfl (hb hby at_166) (by decide) (by decide) ?_
                exact kt
              · refine ⟨T30, X30, e30, fun t kt => ?_⟩
                subst hv40
                simp only [if_pos hc42, if_pos hc45, if_neg hc49] at kt
                refine pre50 t ?_
                show Steps _ _ _ (T30.setTop (mkF m 162 #[vI p1, vI p2, vI p3, vI p4, vI p5, vI 0, vI tv, vR b3, vI v33, .unset] [iI 191, iI ((nar .byte x2) &&& (255 : Int32))])) _
                refine XS.icmpYes X30.here hx rfl (pc0 := 162) (pc' := 169) rfl (hb hby at_162) rfl (feq hc49).2 (by decide) (by decide) ?_
                show Steps _ _ _ (T30.setTop (mkF m 169 #[vI p1, vI p2, vI p3, vI p4, vI p5, vI 0, vI tv, vR b3, vI v33, .unset] [])) _
                refine XS.iconst X30.here hx rfl (hb hby at_169) ?_
                exact kt
            · refine ⟨T30, X30, e30, fun t kt => ?_⟩
              subst hv40
              simp only [if_pos hc42, if_neg hc45] at kt
              refine pre46 t ?_
              show Steps _ _ _ (T30.setTop (mkF m 145 #[vI p1, vI p2, vI p3, vI p4, vI p5, vI 0, vI tv, vR b3, vI v33, .unset] [iI 187, iI ((nar .byte x1) &&& (255 : Int32))])) _
              refine XS.icmpYes X30.here hx rfl (pc0 := 145) (pc' := 169) rfl (hb hby at_145) rfl (feq hc45).2 (by decide) (by decide) ?_
              show Steps _ _ _ (T30.setTop (mkF m 169 #[vI p1, vI p2, vI p3, vI p4, vI p5, vI 0, vI tv, vR b3, vI v33, .unset] [])) _
              refine XS.iconst X30.here hx rfl (hb hby at_169) ?_
              exact kt
          · refine ⟨T30, X30, e30, fun t kt => ?_⟩
            subst hv40
            simp only [if_neg hc42] at kt
            show Steps _ _ _ (T30.setTop (mkF m 128 #[vI p1, vI p2, vI p3, vI p4, vI p5, vI 0, vI tv, vR b3, vI v33, .unset] [iI 239, iI ((nar .byte x0) &&& (255 : Int32))])) _
            refine XS.icmpYes X30.here hx rfl (pc0 := 128) (pc' := 169) rfl (hb hby at_128) rfl (feq hc42).2 (by decide) (by decide) ?_
            show Steps _ _ _ (T30.setTop (mkF m 169 #[vI p1, vI p2, vI p3, vI p4, vI p5, vI 0, vI tv, vR b3, vI v33, .unset] [])) _
            refine XS.iconst X30.here hx rfl (hb hby at_169) ?_
            exact kt
        refine ⟨T41, X41, e41, fun t kt => ?_⟩
        subst hv34
        simp only [if_neg hc36] at kt
        show Steps _ _ _ (T30.setTop (mkF m 107 #[vI p1, vI p2, vI p3, vI p4, vI p5, vI 0, vI tv, vR b3, vI v33, .unset] [iI 3, iI (tv - (0 : Int32))])) _
        refine XS.icmpYes X30.here hx rfl (pc0 := 107) (pc' := 116) rfl (hb hby at_107) rfl (flt hc36).2.1 (by decide) (by decide) ?_
        show Steps _ _ _ (T30.setTop (mkF m 116 #[vI p1, vI p2, vI p3, vI p4, vI p5, vI 0, vI tv, vR b3, vI v33, .unset] [])) _
        refine XS.aload X30.here hx rfl (hb hby at_116) rfl rfl ?_
        show Steps _ _ _ (T30.setTop (mkF m 118 #[vI p1, vI p2, vI p3, vI p4, vI p5, vI 0, vI tv, vR b3, vI v33, .unset] [iR b3])) _
        refine XS.iload X30.here hx rfl (hb hby at_118) rfl ?_
        show Steps _ _ _ (T30.setTop (mkF m 120 #[vI p1, vI p2, vI p3, vI p4, vI p5, vI 0, vI tv, vR b3, vI v33, .unset] [iI 0, iR b3])) _
        refine X30.baloadBytes hx (j := (0 : Int32)) (v := (.int (nar .byte x0))) (by rw [e30]; exact Ar37.1) (State.isArrayOf_alike hZ.alike Ar37.2.1) Ar37.2.2 hin38 hat39 (g := (mkF m 120 #[vI p1, vI p2, vI p3, vI p4, vI p5, vI 0, vI tv, vR b3, vI v33, .unset] [iI 0, iR b3])) rfl rfl (hb hby at_120) _ ?_
        show Steps _ _ _ (T30.setTop (mkF m 121 #[vI p1, vI p2, vI p3, vI p4, vI p5, vI 0, vI tv, vR b3, vI v33, .unset] [iI (nar .byte x0)])) _
        refine XS.sipush X30.here hx rfl (hb hby at_121) ?_
        show Steps _ _ _ (T30.setTop (mkF m 124 #[vI p1, vI p2, vI p3, vI p4, vI p5, vI 0, vI tv, vR b3, vI v33, .unset] [iI 255, iI (nar .byte x0)])) _
        refine XS.iand X30.here hx rfl (hb hby at_124) rfl ?_
        show Steps _ _ _ (T30.setTop (mkF m 125 #[vI p1, vI p2, vI p3, vI p4, vI p5, vI 0, vI tv, vR b3, vI v33, .unset] [iI ((nar .byte x0) &&& (255 : Int32))])) _
        refine XS.sipush X30.here hx rfl (hb hby at_125) ?_
        show Steps _ _ _ (T30.setTop (mkF m 128 #[vI p1, vI p2, vI p3, vI p4, vI p5, vI 0, vI tv, vR b3, vI v33, .unset] [iI 239, iI ((nar .byte x0) &&& (255 : Int32))])) _
        refine st41 _ ?_
        show Steps _ _ _ (T41.setTop (mkF m 170 #[vI p1, vI p2, vI p3, vI p4, vI p5, vI 0, vI tv, vR b3, vI v33, .unset] [iI v40])) _
        refine XS.istore X41.here hx rfl (hb hby at_170) rfl (l' := #[vI p1, vI p2, vI p3, vI p4, vI p5, vI 0, vI tv, vR b3, vI v33, vI v40]) rfl ?_
        subst hv40
        exact kt
    have hh51 : v33 = v34 := (by rw [hv33, hv34]; exact own_q_0 _ _ _ _ _ _ (own_nb _) (own_nb _) (own_nb _))
    obtain ⟨fs, hr, hrun, hended, hW, hsame⟩ := X35.leave (v := some (.int (1 : Int32))) (fun h => by rw [Bd.returns] at h; cases h)
    refine ⟨_, _, pre29 _ ?_, hrun, hended, _, _, rfl, ?_, ⟨_, rfl⟩, hW, hsame.mono (by decide) (by decide)⟩
    · show Steps _ _ _ (T28.setTop (mkF m 90 #[vI p1, vI p2, vI p3, vI p4, vI p5, vI 0, vI tv, vR b3, .unset, .unset] [])) _
      refine XS.aload X28.here hx rfl (hb hby at_90) rfl rfl ?_
      show Steps _ _ _ (T28.setTop (mkF m 92 #[vI p1, vI p2, vI p3, vI p4, vI p5, vI 0, vI tv, vR b3, .unset, .unset] [iR b3])) _
      refine XS.iload X28.here hx rfl (hb hby at_92) rfl ?_
      show Steps _ _ _ (T28.setTop (mkF m 94 #[vI p1, vI p2, vI p3, vI p4, vI p5, vI 0, vI tv, vR b3, .unset, .unset] [iI 0, iR b3])) _
      refine XS.iload X28.here hx rfl (hb hby at_94) rfl ?_
      show Steps _ _ _ (T28.setTop (mkF m 96 #[vI p1, vI p2, vI p3, vI p4, vI p5, vI 0, vI tv, vR b3, .unset, .unset] [iI tv, iI 0, iR b3])) _
      refine st30 _ ?_
      show Steps _ _ _ (T30.setTop (mkF m 99 #[vI p1, vI p2, vI p3, vI p4, vI p5, vI 0, vI tv, vR b3, .unset, .unset] [iI (own_sw_0 tv (nar .byte x0) (nar .byte x1) (nar .byte x2) (nar .byte x3) (nar .byte x4))])) _
      refine XS.istore X30.here hx rfl (hb hby at_99) rfl (l' := #[vI p1, vI p2, vI p3, vI p4, vI p5, vI 0, vI tv, vR b3, vI (own_sw_0 tv (nar .byte x0) (nar .byte x1) (nar .byte x2) (nar .byte x3) (nar .byte x4)), .unset]) rfl ?_
      rw [← hv33]
      show Steps _ _ _ (T30.setTop (mkF m 101 #[vI p1, vI p2, vI p3, vI p4, vI p5, vI 0, vI tv, vR b3, vI v33, .unset] [])) _
      refine XS.iload X30.here hx rfl (hb hby at_101) rfl ?_
      show Steps _ _ _ (T30.setTop (mkF m 103 #[vI p1, vI p2, vI p3, vI p4, vI p5, vI 0, vI tv, vR b3, vI v33, .unset] [iI tv])) _
      refine XS.iload X30.here hx rfl (hb hby at_103) rfl ?_
      show Steps _ _ _ (T30.setTop (mkF m 105 #[vI p1, vI p2, vI p3, vI p4, vI p5, vI 0, vI tv, vR b3, vI v33, .unset] [iI 0, iI tv])) _
      refine XS.isub X30.here hx rfl (hb hby at_105) rfl ?_
      show Steps _ _ _ (T30.setTop (mkF m 106 #[vI p1, vI p2, vI p3, vI p4, vI p5, vI 0, vI tv, vR b3, vI v33, .unset] [iI (tv - (0 : Int32))])) _
      refine XS.iconst X30.here hx rfl (hb hby at_106) ?_
      show Steps _ _ _ (T30.setTop (mkF m 107 #[vI p1, vI p2, vI p3, vI p4, vI p5, vI 0, vI tv, vR b3, vI v33, .unset] [iI 3, iI (tv - (0 : Int32))])) _
      refine st35 _ ?_
      show Steps _ _ _ (T35.setTop (mkF m 172 #[vI p1, vI p2, vI p3, vI p4, vI p5, vI 0, vI tv, vR b3, vI v33, vI v34] [])) _
      refine XS.iload X35.here hx rfl (hb hby at_172) rfl ?_
      show Steps _ _ _ (T35.setTop (mkF m 174 #[vI p1, vI p2, vI p3, vI p4, vI p5, vI 0, vI tv, vR b3, vI v33, vI v34] [iI v33])) _
      refine XS.iload X35.here hx rfl (hb hby at_174) rfl ?_
      show Steps _ _ _ (T35.setTop (mkF m 176 #[vI p1, vI p2, vI p3, vI p4, vI p5, vI 0, vI tv, vR b3, vI v33, vI v34] [iI v34, iI v33])) _
      refine XS.icmpNo X35.here hx rfl (hb hby at_176) rfl (teq hh51).2 ?_
      show Steps _ _ _ (T35.setTop (mkF m 179 #[vI p1, vI p2, vI p3, vI p4, vI p5, vI 0, vI tv, vR b3, vI v33, vI v34] [])) _
      refine XS.iconst X35.here hx rfl (hb hby at_179) ?_
      show Steps _ _ _ (T35.setTop (mkF m 180 #[vI p1, vI p2, vI p3, vI p4, vI p5, vI 0, vI tv, vR b3, vI v33, vI v34] [iI 1])) _
      refine XS.goto X35.here hx rfl (pc0 := 180) (pc' := 184) rfl (hb hby at_180) (by decide) (by decide) ?_
      show Steps _ _ _ (T35.setTop (mkF m 184 #[vI p1, vI p2, vI p3, vI p4, vI p5, vI 0, vI tv, vR b3, vI v33, vI v34] [iI 1])) _
      exact retN X35 hx (t := .boolean) Bd.returns (by simp) (hb hby at_184) hr
    · show Q0 Z p1 p2 p3 p4 p5 s_B kB h0 n0 _ T35.heap _
      rw [e35]
      exact ⟨rfl, N28⟩
  · have fk53 := ((((((S_B.ext E3).wr W8).wr W13).wr W18).wr W23).wr W28)
    have fk54 := ((((((V_B.ext E3).other W8 ne_s_B_b3).other W13 ne_s_B_b3).other W18 ne_s_B_b3).other W23 ne_s_B_b3).other W28 ne_s_B_b3)
    obtain ⟨_, _, ⟨T52, L52, k52, n52⟩, -, X52, ⟨Lc52, hQ52, l52, y52, z52⟩, st52⟩ := Jvm.LawKit.callS X28 hx (y := (⟨"com/example/tidemine/tidemine/TextFormat", "startsWithByteOrderMark", "([BII)Z"⟩ : MethodName)) hown (mvT hZ (hw _ (List.mem_of_getElem? (i := 6) rfl))) (mvT hZ (hw _ (List.mem_of_getElem? (i := 7) rfl))) (mvT hZ (hw _ (List.mem_of_getElem? (i := 8) rfl))) (mvT hZ (hw _ (List.mem_of_getElem? (i := 9) rfl))) (by decide) (backOf (W := 0) (rm2_1 l Z a0 hw [] b3 tv (nar .byte x0) (nar .byte x1) (nar .byte x2) (nar .byte x3) (nar .byte x4) k3 s_B kB h28 fk53 fk54 V28) hZ (hw _ (List.mem_of_getElem? (i := 9) rfl)) (hw _ (List.mem_of_getElem? (i := 8) rfl)) (by decide) (by decide)) (g := (mkF m 96 #[vI p1, vI p2, vI p3, vI p4, vI p5, vI 1, vI tv, vR b3, .unset, .unset] [iI tv, iI 1, iR b3])) rfl (by rw [hml]; rfl) (argsL := [(.ref b3), (.int (1 : Int32)), (.int tv)]) (rest := []) (lenOf pd_1 rfl) rfl (by show 2 * 0 + _ ≤ _; exact Nat.le_of_eq rfl) (hb hby at_96) (fun _ _ => ⟨rfl, e28, (by decide : 1 + 0 ≤ _), (by decide : 5 + 0 ≤ _)⟩)
    dsimp only [Pt.U, Pt.locs, Pt.cells, Pt.slots] at X52 l52 y52 z52 st52 hQ52
    subst l52 y52 z52
    obtain ⟨rfl, rfl, e52⟩ := hQ52
    try rw [List.append_nil] at X52
    obtain ⟨v55, hv55⟩ : ∃ z : Int32, z = (own_sw_1 tv (nar .byte x0) (nar .byte x1) (nar .byte x2) (nar .byte x3) (nar .byte x4)) := ⟨_, rfl⟩
    obtain ⟨v56, hv56⟩ : ∃ z : Int32, z = (if (tv - (1 : Int32)) < (3 : Int32) then (0 : Int32) else (if ((nar .byte x1) &&& (255 : Int32)) = (239 : Int32) then (if ((nar .byte x2) &&& (255 : Int32)) = (187 : Int32) then (if ((nar .byte x3) &&& (255 : Int32)) = (191 : Int32) then (1 : Int32) else (0 : Int32)) else (0 : Int32)) else (0 : Int32))) := ⟨_, rfl⟩
    obtain ⟨T57, X57, e57, st57⟩ : own_Mid X52 h28 (mkF m 107 #[vI p1, vI p2, vI p3, vI p4, vI p5, vI 1, vI tv, vR b3, vI v55, .unset] [iI 3, iI (tv - (1 : Int32))]) (mkF m 172 #[vI p1, vI p2, vI p3, vI p4, vI p5, vI 1, vI tv, vR b3, vI v55, vI v56] []) := by
      by_cases hc58 : (tv - (1 : Int32)) < (3 : Int32)
      · refine ⟨T52, X52, e52, fun t kt => ?_⟩
        subst hv56
        simp only [if_pos hc58] at kt
        show Steps _ _ _ (T52.setTop (mkF m 107 #[vI p1, vI p2, vI p3, vI p4, vI p5, vI 1, vI tv, vR b3, vI v55, .unset] [iI 3, iI (tv - (1 : Int32))])) _
        refine XS.icmpNo X52.here hx rfl (hb hby at_107) rfl (tlt hc58).2.1 ?_
        show Steps _ _ _ (T52.setTop (mkF m 110 #[vI p1, vI p2, vI p3, vI p4, vI p5, vI 1, vI tv, vR b3, vI v55, .unset] [])) _
        refine XS.iconst X52.here hx rfl (hb hby at_110) ?_
        show Steps _ _ _ (T52.setTop (mkF m 111 #[vI p1, vI p2, vI p3, vI p4, vI p5, vI 1, vI tv, vR b3, vI v55, .unset] [iI 0])) _
        refine XS.istore X52.here hx rfl (hb hby at_111) rfl (l' := #[vI p1, vI p2, vI p3, vI p4, vI p5, vI 1, vI tv, vR b3, vI v55, vI 0]) rfl ?_
        show Steps _ _ _ (T52.setTop (mkF m 113 #[vI p1, vI p2, vI p3, vI p4, vI p5, vI 1, vI tv, vR b3, vI v55, vI 0] [])) _
        refine XS.goto X52.here hx rfl (pc0 := 113) (pc' := 172) rfl (hb hby at_113) (by decide) (by decide) ?_
        exact kt
      · obtain ⟨cl59, Ar59, q59, S59, M59, H59, G59⟩ := V28
        have hin60 : ¬ ((1 : Int32) < 0 ∨ cl59.slots.size ≤ ((1 : Int32)).toNatClampNeg) := inb_of S59 ⟨by decide, by decide⟩
        have hat61 : cl59.slots[((1 : Int32)).toNatClampNeg]? = some (.int (nar .byte x1)) := Has.at H59 hin60 rfl
        obtain ⟨v62, hv62⟩ : ∃ z : Int32, z = (if ((nar .byte x1) &&& (255 : Int32)) = (239 : Int32) then (if ((nar .byte x2) &&& (255 : Int32)) = (187 : Int32) then (if ((nar .byte x3) &&& (255 : Int32)) = (191 : Int32) then (1 : Int32) else (0 : Int32)) else (0 : Int32)) else (0 : Int32)) := ⟨_, rfl⟩
        obtain ⟨T63, X63, e63, st63⟩ : own_Mid X52 h28 (mkF m 128 #[vI p1, vI p2, vI p3, vI p4, vI p5, vI 1, vI tv, vR b3, vI v55, .unset] [iI 239, iI ((nar .byte x1) &&& (255 : Int32))]) (mkF m 170 #[vI p1, vI p2, vI p3, vI p4, vI p5, vI 1, vI tv, vR b3, vI v55, .unset] [iI v62]) := by
          by_cases hc64 : ((nar .byte x1) &&& (255 : Int32)) = (239 : Int32)
          · have hin65 : ¬ ((2 : Int32) < 0 ∨ cl59.slots.size ≤ ((2 : Int32)).toNatClampNeg) := inb_of S59 ⟨by decide, by decide⟩
            have hat66 : cl59.slots[((2 : Int32)).toNatClampNeg]? = some (.int (nar .byte x2)) := Has.at H59 hin65 rfl
            have pre68 : ∀ t, Steps p.tables e below (T52.setTop (mkF m 145 #[vI p1, vI p2, vI p3, vI p4, vI p5, vI 1, vI tv, vR b3, vI v55, .unset] [iI 187, iI ((nar .byte x2) &&& (255 : Int32))])) t → Steps p.tables e below (T52.setTop (mkF m 128 #[vI p1, vI p2, vI p3, vI p4, vI p5, vI 1, vI tv, vR b3, vI v55, .unset] [iI 239, iI ((nar .byte x1) &&& (255 : Int32))])) t := by
              intro t kt
              show Steps _ _ _ (T52.setTop (mkF m 128 #[vI p1, vI p2, vI p3, vI p4, vI p5, vI 1, vI tv, vR b3, vI v55, .unset] [iI 239, iI ((nar .byte x1) &&& (255 : Int32))])) _
              refine XS.icmpNo X52.here hx rfl (hb hby at_128) rfl (teq hc64).2 ?_
              show Steps _ _ _ (T52.setTop (mkF m 131 #[vI p1, vI p2, vI p3, vI p4, vI p5, vI 1, vI tv, vR b3, vI v55, .unset] [])) _
              refine XS.aload X52.here hx rfl (hb hby at_131) rfl rfl ?_
              show Steps _ _ _ (T52.setTop (mkF m 133 #[vI p1, vI p2, vI p3, vI p4, vI p5, vI 1, vI tv, vR b3, vI v55, .unset] [iR b3])) _
              refine XS.iload X52.here hx rfl (hb hby at_133) rfl ?_
              show Steps _ _ _ (T52.setTop (mkF m 135 #[vI p1, vI p2, vI p3, vI p4, vI p5, vI 1, vI tv, vR b3, vI v55, .unset] [iI 1, iR b3])) _
              refine XS.iconst X52.here hx rfl (hb hby at_135) ?_
              show Steps _ _ _ (T52.setTop (mkF m 136 #[vI p1, vI p2, vI p3, vI p4, vI p5, vI 1, vI tv, vR b3, vI v55, .unset] [iI 1, iI 1, iR b3])) _
              refine XS.iadd X52.here hx rfl (hb hby at_136) rfl ?_
              rw [(by decide : ((1 : Int32) + (1 : Int32)) = (2 : Int32))]
              show Steps _ _ _ (T52.setTop (mkF m 137 #[vI p1, vI p2, vI p3, vI p4, vI p5, vI 1, vI tv, vR b3, vI v55, .unset] [iI 2, iR b3])) _
              refine X52.baloadBytes hx (j := (2 : Int32)) (v := (.int (nar .byte x2))) (by rw [e52]; exact Ar59.1) (State.isArrayOf_alike hZ.alike Ar59.2.1) Ar59.2.2 hin65 hat66 (g := (mkF m 137 #[vI p1, vI p2, vI p3, vI p4, vI p5, vI 1, vI tv, vR b3, vI v55, .unset] [iI 2, iR b3])) rfl rfl (hb hby at_137) _ ?_
              show Steps _ _ _ (T52.setTop (mkF m 138 #[vI p1, vI p2, vI p3, vI p4, vI p5, vI 1, vI tv, vR b3, vI v55, .unset] [iI (nar .byte x2)])) _
              refine XS.sipush X52.here hx rfl (hb hby at_138) ?_
              show Steps _ _ _ (T52.setTop (mkF m 141 #[vI p1, vI p2, vI p3, vI p4, vI p5, vI 1, vI tv, vR b3, vI v55, .unset] [iI 255, iI (nar .byte x2)])) _
              refine XS.iand X52.here hx rfl (hb hby at_141) rfl ?_
              show Steps _ _ _ (T52.setTop (mkF m 142 #[vI p1, vI p2, vI p3, vI p4, vI p5, vI 1, vI tv, vR b3, vI v55, .unset] [iI ((nar .byte x2) &&& (255 : Int32))])) _
              refine XS.sipush X52.here hx rfl (hb hby at_142) ?_
              exact kt
            by_cases hc67 : ((nar .byte x2) &&& (255 : Int32)) = (187 : Int32)
            · have hin69 : ¬ ((3 : Int32) < 0 ∨ cl59.slots.size ≤ ((3 : Int32)).toNatClampNeg) := inb_of S59 ⟨by decide, by decide⟩
              have hat70 : cl59.slots[((3 : Int32)).toNatClampNeg]? = some (.int (nar .byte x3)) := Has.at H59 hin69 rfl
              have pre72 : ∀ t, Steps p.tables e below (T52.setTop (mkF m 162 #[vI p1, vI p2, vI p3, vI p4, vI p5, vI 1, vI tv, vR b3, vI v55, .unset] [iI 191, iI ((nar .byte x3) &&& (255 : Int32))])) t → Steps p.tables e below (T52.setTop (mkF m 128 #[vI p1, vI p2, vI p3, vI p4, vI p5, vI 1, vI tv, vR b3, vI v55, .unset] [iI 239, iI ((nar .byte x1) &&& (255 : Int32))])) t := by
                intro t kt
                refine pre68 t ?_
                show Steps _ _ _ (T52.setTop (mkF m 145 #[vI p1, vI p2, vI p3, vI p4, vI p5, vI 1, vI tv, vR b3, vI v55, .unset] [iI 187, iI ((nar .byte x2) &&& (255 : Int32))])) _
                refine XS.icmpNo X52.here hx rfl (hb hby at_145) rfl (teq hc67).2 ?_
                show Steps _ _ _ (T52.setTop (mkF m 148 #[vI p1, vI p2, vI p3, vI p4, vI p5, vI 1, vI tv, vR b3, vI v55, .unset] [])) _
                refine XS.aload X52.here hx rfl (hb hby at_148) rfl rfl ?_
                show Steps _ _ _ (T52.setTop (mkF m 150 #[vI p1, vI p2, vI p3, vI p4, vI p5, vI 1, vI tv, vR b3, vI v55, .unset] [iR b3])) _
                refine XS.iload X52.here hx rfl (hb hby at_150) rfl ?_
                show Steps _ _ _ (T52.setTop (mkF m 152 #[vI p1, vI p2, vI p3, vI p4, vI p5, vI 1, vI tv, vR b3, vI v55, .unset] [iI 1, iR b3])) _
                refine XS.iconst X52.here hx rfl (hb hby at_152) ?_
                show Steps _ _ _ (T52.setTop (mkF m 153 #[vI p1, vI p2, vI p3, vI p4, vI p5, vI 1, vI tv, vR b3, vI v55, .unset] [iI 2, iI 1, iR b3])) _
                refine XS.iadd X52.here hx rfl (hb hby at_153) rfl ?_
                rw [(by decide : ((1 : Int32) + (2 : Int32)) = (3 : Int32))]
                show Steps _ _ _ (T52.setTop (mkF m 154 #[vI p1, vI p2, vI p3, vI p4, vI p5, vI 1, vI tv, vR b3, vI v55, .unset] [iI 3, iR b3])) _
                refine X52.baloadBytes hx (j := (3 : Int32)) (v := (.int (nar .byte x3))) (by rw [e52]; exact Ar59.1) (State.isArrayOf_alike hZ.alike Ar59.2.1) Ar59.2.2 hin69 hat70 (g := (mkF m 154 #[vI p1, vI p2, vI p3, vI p4, vI p5, vI 1, vI tv, vR b3, vI v55, .unset] [iI 3, iR b3])) rfl rfl (hb hby at_154) _ ?_
                show Steps _ _ _ (T52.setTop (mkF m 155 #[vI p1, vI p2, vI p3, vI p4, vI p5, vI 1, vI tv, vR b3, vI v55, .unset] [iI (nar .byte x3)])) _
                refine XS.sipush X52.here hx rfl (hb hby at_155) ?_
                show Steps _ _ _ (T52.setTop (mkF m 158 #[vI p1, vI p2, vI p3, vI p4, vI p5, vI 1, vI tv, vR b3, vI v55, .unset] [iI 255, iI (nar .byte x3)])) _
                refine XS.iand X52.here hx rfl (hb hby at_158) rfl ?_
                show Steps _ _ _ (T52.setTop (mkF m 159 #[vI p1, vI p2, vI p3, vI p4, vI p5, vI 1, vI tv, vR b3, vI v55, .unset] [iI ((nar .byte x3) &&& (255 : Int32))])) _
                refine XS.sipush X52.here hx rfl (hb hby at_159) ?_
                exact kt
              by_cases hc71 : ((nar .byte x3) &&& (255 : Int32)) = (191 : Int32)
              · refine ⟨T52, X52, e52, fun t kt => ?_⟩
                subst hv62
                simp only [if_pos hc64, if_pos hc67, if_pos hc71] at kt
                refine pre72 t ?_
                show Steps _ _ _ (T52.setTop (mkF m 162 #[vI p1, vI p2, vI p3, vI p4, vI p5, vI 1, vI tv, vR b3, vI v55, .unset] [iI 191, iI ((nar .byte x3) &&& (255 : Int32))])) _
                refine XS.icmpNo X52.here hx rfl (hb hby at_162) rfl (teq hc71).2 ?_
                show Steps _ _ _ (T52.setTop (mkF m 165 #[vI p1, vI p2, vI p3, vI p4, vI p5, vI 1, vI tv, vR b3, vI v55, .unset] [])) _
                refine XS.iconst X52.here hx rfl (hb hby at_165) ?_
                show Steps _ _ _ (T52.setTop (mkF m 166 #[vI p1, vI p2, vI p3, vI p4, vI p5, vI 1, vI tv, vR b3, vI v55, .unset] [iI 1])) _
                refine XS.goto X52.here hx rfl (pc0 := 166) (pc' := 170) rfl (hb hby at_166) (by decide) (by decide) ?_
                exact kt
              · refine ⟨T52, X52, e52, fun t kt => ?_⟩
                subst hv62
                simp only [if_pos hc64, if_pos hc67, if_neg hc71] at kt
                refine pre72 t ?_
                show Steps _ _ _ (T52.setTop (mkF m 162 #[vI p1, vI p2, vI p3, vI p4, vI p5, vI 1, vI tv, vR b3, vI v55, .unset] [iI 191, iI ((nar .byte x3) &&& (255 : Int32))])) _
                refine XS.icmpYes X52.here hx rfl (pc0 := 162) (pc' := 169) rfl (hb hby at_162) rfl (feq hc71).2 (by decide) (by decide) ?_
                show Steps _ _ _ (T52.setTop (mkF m 169 #[vI p1, vI p2, vI p3, vI p4, vI p5, vI 1, vI tv, vR b3, vI v55, .unset] [])) _
                refine XS.iconst X52.here hx rfl (hb hby at_169) ?_
                exact kt
            · refine ⟨T52, X52, e52, fun t kt => ?_⟩
              subst hv62
              simp only [if_pos hc64, if_neg hc67] at kt
              refine pre68 t ?_
              show Steps _ _ _ (T52.setTop (mkF m 145 #[vI p1, vI p2, vI p3, vI p4, vI p5, vI 1, vI tv, vR b3, vI v55, .unset] [iI 187, iI ((nar .byte x2) &&& (255 : Int32))])) _
              refine XS.icmpYes X52.here hx rfl (pc0 := 145) (pc' := 169) rfl (hb hby at_145) rfl (feq hc67).2 (by decide) (by decide) ?_
              show Steps _ _ _ (T52.setTop (mkF m 169 #[vI p1, vI p2, vI p3, vI p4, vI p5, vI 1, vI tv, vR b3, vI v55, .unset] [])) _
              refine XS.iconst X52.here hx rfl (hb hby at_169) ?_
              exact kt
          · refine ⟨T52, X52, e52, fun t kt => ?_⟩
            subst hv62
            simp only [if_neg hc64] at kt
            show Steps _ _ _ (T52.setTop (mkF m 128 #[vI p1, vI p2, vI p3, vI p4, vI p5, vI 1, vI tv, vR b3, vI v55, .unset] [iI 239, iI ((nar .byte x1) &&& (255 : Int32))])) _
            refine XS.icmpYes X52.here hx rfl (pc0 := 128) (pc' := 169) rfl (hb hby at_128) rfl (feq hc64).2 (by decide) (by decide) ?_
            show Steps _ _ _ (T52.setTop (mkF m 169 #[vI p1, vI p2, vI p3, vI p4, vI p5, vI 1, vI tv, vR b3, vI v55, .unset] [])) _
            refine XS.iconst X52.here hx rfl (hb hby at_169) ?_
            exact kt
        refine ⟨T63, X63, e63, fun t kt => ?_⟩
        subst hv56
        simp only [if_neg hc58] at kt
        show Steps _ _ _ (T52.setTop (mkF m 107 #[vI p1, vI p2, vI p3, vI p4, vI p5, vI 1, vI tv, vR b3, vI v55, .unset] [iI 3, iI (tv - (1 : Int32))])) _
        refine XS.icmpYes X52.here hx rfl (pc0 := 107) (pc' := 116) rfl (hb hby at_107) rfl (flt hc58).2.1 (by decide) (by decide) ?_
        show Steps _ _ _ (T52.setTop (mkF m 116 #[vI p1, vI p2, vI p3, vI p4, vI p5, vI 1, vI tv, vR b3, vI v55, .unset] [])) _
        refine XS.aload X52.here hx rfl (hb hby at_116) rfl rfl ?_
        show Steps _ _ _ (T52.setTop (mkF m 118 #[vI p1, vI p2, vI p3, vI p4, vI p5, vI 1, vI tv, vR b3, vI v55, .unset] [iR b3])) _
        refine XS.iload X52.here hx rfl (hb hby at_118) rfl ?_
        show Steps _ _ _ (T52.setTop (mkF m 120 #[vI p1, vI p2, vI p3, vI p4, vI p5, vI 1, vI tv, vR b3, vI v55, .unset] [iI 1, iR b3])) _
        refine X52.baloadBytes hx (j := (1 : Int32)) (v := (.int (nar .byte x1))) (by rw [e52]; exact Ar59.1) (State.isArrayOf_alike hZ.alike Ar59.2.1) Ar59.2.2 hin60 hat61 (g := (mkF m 120 #[vI p1, vI p2, vI p3, vI p4, vI p5, vI 1, vI tv, vR b3, vI v55, .unset] [iI 1, iR b3])) rfl rfl (hb hby at_120) _ ?_
        show Steps _ _ _ (T52.setTop (mkF m 121 #[vI p1, vI p2, vI p3, vI p4, vI p5, vI 1, vI tv, vR b3, vI v55, .unset] [iI (nar .byte x1)])) _
        refine XS.sipush X52.here hx rfl (hb hby at_121) ?_
        show Steps _ _ _ (T52.setTop (mkF m 124 #[vI p1, vI p2, vI p3, vI p4, vI p5, vI 1, vI tv, vR b3, vI v55, .unset] [iI 255, iI (nar .byte x1)])) _
        refine XS.iand X52.here hx rfl (hb hby at_124) rfl ?_
        show Steps _ _ _ (T52.setTop (mkF m 125 #[vI p1, vI p2, vI p3, vI p4, vI p5, vI 1, vI tv, vR b3, vI v55, .unset] [iI ((nar .byte x1) &&& (255 : Int32))])) _
        refine XS.sipush X52.here hx rfl (hb hby at_125) ?_
        show Steps _ _ _ (T52.setTop (mkF m 128 #[vI p1, vI p2, vI p3, vI p4, vI p5, vI 1, vI tv, vR b3, vI v55, .unset] [iI 239, iI ((nar .byte x1) &&& (255 : Int32))])) _
        refine st63 _ ?_
        show Steps _ _ _ (T63.setTop (mkF m 170 #[vI p1, vI p2, vI p3, vI p4, vI p5, vI 1, vI tv, vR b3, vI v55, .unset] [iI v62])) _
        refine XS.istore X63.here hx rfl (hb hby at_170) rfl (l' := #[vI p1, vI p2, vI p3, vI p4, vI p5, vI 1, vI tv, vR b3, vI v55, vI v62]) rfl ?_
        subst hv62
        exact kt
    have hh73 : v55 = v56 := (by rw [hv55, hv56]; exact own_q_1 _ _ _ _ _ _ (own_nb _) (own_nb _) (own_nb _))
    obtain ⟨fs, hr, hrun, hended, hW, hsame⟩ := X57.leave (v := some (.int (1 : Int32))) (fun h => by rw [Bd.returns] at h; cases h)
    refine ⟨_, _, pre29 _ ?_, hrun, hended, _, _, rfl, ?_, ⟨_, rfl⟩, hW, hsame.mono (by decide) (by decide)⟩
    · show Steps _ _ _ (T28.setTop (mkF m 90 #[vI p1, vI p2, vI p3, vI p4, vI p5, vI 1, vI tv, vR b3, .unset, .unset] [])) _
      refine XS.aload X28.here hx rfl (hb hby at_90) rfl rfl ?_
      show Steps _ _ _ (T28.setTop (mkF m 92 #[vI p1, vI p2, vI p3, vI p4, vI p5, vI 1, vI tv, vR b3, .unset, .unset] [iR b3])) _
      refine XS.iload X28.here hx rfl (hb hby at_92) rfl ?_
      show Steps _ _ _ (T28.setTop (mkF m 94 #[vI p1, vI p2, vI p3, vI p4, vI p5, vI 1, vI tv, vR b3, .unset, .unset] [iI 1, iR b3])) _
      refine XS.iload X28.here hx rfl (hb hby at_94) rfl ?_
      show Steps _ _ _ (T28.setTop (mkF m 96 #[vI p1, vI p2, vI p3, vI p4, vI p5, vI 1, vI tv, vR b3, .unset, .unset] [iI tv, iI 1, iR b3])) _
      refine st52 _ ?_
      show Steps _ _ _ (T52.setTop (mkF m 99 #[vI p1, vI p2, vI p3, vI p4, vI p5, vI 1, vI tv, vR b3, .unset, .unset] [iI (own_sw_1 tv (nar .byte x0) (nar .byte x1) (nar .byte x2) (nar .byte x3) (nar .byte x4))])) _
      refine XS.istore X52.here hx rfl (hb hby at_99) rfl (l' := #[vI p1, vI p2, vI p3, vI p4, vI p5, vI 1, vI tv, vR b3, vI (own_sw_1 tv (nar .byte x0) (nar .byte x1) (nar .byte x2) (nar .byte x3) (nar .byte x4)), .unset]) rfl ?_
      rw [← hv55]
      show Steps _ _ _ (T52.setTop (mkF m 101 #[vI p1, vI p2, vI p3, vI p4, vI p5, vI 1, vI tv, vR b3, vI v55, .unset] [])) _
      refine XS.iload X52.here hx rfl (hb hby at_101) rfl ?_
      show Steps _ _ _ (T52.setTop (mkF m 103 #[vI p1, vI p2, vI p3, vI p4, vI p5, vI 1, vI tv, vR b3, vI v55, .unset] [iI tv])) _
      refine XS.iload X52.here hx rfl (hb hby at_103) rfl ?_
      show Steps _ _ _ (T52.setTop (mkF m 105 #[vI p1, vI p2, vI p3, vI p4, vI p5, vI 1, vI tv, vR b3, vI v55, .unset] [iI 1, iI tv])) _
      refine XS.isub X52.here hx rfl (hb hby at_105) rfl ?_
      show Steps _ _ _ (T52.setTop (mkF m 106 #[vI p1, vI p2, vI p3, vI p4, vI p5, vI 1, vI tv, vR b3, vI v55, .unset] [iI (tv - (1 : Int32))])) _
      refine XS.iconst X52.here hx rfl (hb hby at_106) ?_
      show Steps _ _ _ (T52.setTop (mkF m 107 #[vI p1, vI p2, vI p3, vI p4, vI p5, vI 1, vI tv, vR b3, vI v55, .unset] [iI 3, iI (tv - (1 : Int32))])) _
      refine st57 _ ?_
      show Steps _ _ _ (T57.setTop (mkF m 172 #[vI p1, vI p2, vI p3, vI p4, vI p5, vI 1, vI tv, vR b3, vI v55, vI v56] [])) _
      refine XS.iload X57.here hx rfl (hb hby at_172) rfl ?_
      show Steps _ _ _ (T57.setTop (mkF m 174 #[vI p1, vI p2, vI p3, vI p4, vI p5, vI 1, vI tv, vR b3, vI v55, vI v56] [iI v55])) _
      refine XS.iload X57.here hx rfl (hb hby at_174) rfl ?_
      show Steps _ _ _ (T57.setTop (mkF m 176 #[vI p1, vI p2, vI p3, vI p4, vI p5, vI 1, vI tv, vR b3, vI v55, vI v56] [iI v56, iI v55])) _
      refine XS.icmpNo X57.here hx rfl (hb hby at_176) rfl (teq hh73).2 ?_
      show Steps _ _ _ (T57.setTop (mkF m 179 #[vI p1, vI p2, vI p3, vI p4, vI p5, vI 1, vI tv, vR b3, vI v55, vI v56] [])) _
      refine XS.iconst X57.here hx rfl (hb hby at_179) ?_
      show Steps _ _ _ (T57.setTop (mkF m 180 #[vI p1, vI p2, vI p3, vI p4, vI p5, vI 1, vI tv, vR b3, vI v55, vI v56] [iI 1])) _
      refine XS.goto X57.here hx rfl (pc0 := 180) (pc' := 184) rfl (hb hby at_180) (by decide) (by decide) ?_
      show Steps _ _ _ (T57.setTop (mkF m 184 #[vI p1, vI p2, vI p3, vI p4, vI p5, vI 1, vI tv, vR b3, vI v55, vI v56] [iI 1])) _
      exact retN X57 hx (t := .boolean) Bd.returns (by simp) (hb hby at_184) hr
    · show Q0 Z p1 p2 p3 p4 p5 s_B kB h0 n0 _ T57.heap _
      rw [e57]
      exact ⟨rfl, N28⟩
  · have fk75 := ((((((S_B.ext E3).wr W8).wr W13).wr W18).wr W23).wr W28)
    have fk76 := ((((((V_B.ext E3).other W8 ne_s_B_b3).other W13 ne_s_B_b3).other W18 ne_s_B_b3).other W23 ne_s_B_b3).other W28 ne_s_B_b3)
    obtain ⟨_, _, ⟨T74, L74, k74, n74⟩, -, X74, ⟨Lc74, hQ74, l74, y74, z74⟩, st74⟩ := Jvm.LawKit.callS X28 hx (y := (⟨"com/example/tidemine/tidemine/TextFormat", "startsWithByteOrderMark", "([BII)Z"⟩ : MethodName)) hown (mvT hZ (hw _ (List.mem_of_getElem? (i := 6) rfl))) (mvT hZ (hw _ (List.mem_of_getElem? (i := 7) rfl))) (mvT hZ (hw _ (List.mem_of_getElem? (i := 8) rfl))) (mvT hZ (hw _ (List.mem_of_getElem? (i := 9) rfl))) (by decide) (backOf (W := 0) (rm2_2 l Z a0 hw [] b3 tv (nar .byte x0) (nar .byte x1) (nar .byte x2) (nar .byte x3) (nar .byte x4) k3 s_B kB h28 fk75 fk76 V28) hZ (hw _ (List.mem_of_getElem? (i := 9) rfl)) (hw _ (List.mem_of_getElem? (i := 8) rfl)) (by decide) (by decide)) (g := (mkF m 96 #[vI p1, vI p2, vI p3, vI p4, vI p5, vI 2, vI tv, vR b3, .unset, .unset] [iI tv, iI 2, iR b3])) rfl (by rw [hml]; rfl) (argsL := [(.ref b3), (.int (2 : Int32)), (.int tv)]) (rest := []) (lenOf pd_1 rfl) rfl (by show 2 * 0 + _ ≤ _; exact Nat.le_of_eq rfl) (hb hby at_96) (fun _ _ => ⟨rfl, e28, (by decide : 1 + 0 ≤ _), (by decide : 5 + 0 ≤ _)⟩)
    dsimp only [Pt.U, Pt.locs, Pt.cells, Pt.slots] at X74 l74 y74 z74 st74 hQ74
    subst l74 y74 z74
    obtain ⟨rfl, rfl, e74⟩ := hQ74
    try rw [List.append_nil] at X74
    obtain ⟨v77, hv77⟩ : ∃ z : Int32, z = (own_sw_2 tv (nar .byte x0) (nar .byte x1) (nar .byte x2) (nar .byte x3) (nar .byte x4)) := ⟨_, rfl⟩
    obtain ⟨v78, hv78⟩ : ∃ z : Int32, z = (if (tv - (2 : Int32)) < (3 : Int32) then (0 : Int32) else (if ((nar .byte x2) &&& (255 : Int32)) = (239 : Int32) then (if ((nar .byte x3) &&& (255 : Int32)) = (187 : Int32) then (if ((nar .byte x4) &&& (255 : Int32)) = (191 : Int32) then (1 : Int32) else (0 : Int32)) else (0 : Int32)) else (0 : Int32))) := ⟨_, rfl⟩
    obtain ⟨T79, X79, e79, st79⟩ : own_Mid X74 h28 (mkF m 107 #[vI p1, vI p2, vI p3, vI p4, vI p5, vI 2, vI tv, vR b3, vI v77, .unset] [iI 3, iI (tv - (2 : Int32))]) (mkF m 172 #[vI p1, vI p2, vI p3, vI p4, vI p5, vI 2, vI tv, vR b3, vI v77, vI v78] []) := by
      by_cases hc80 : (tv - (2 : Int32)) < (3 : Int32)
      · refine ⟨T74, X74, e74, fun t kt => ?_⟩
        subst hv78
        simp only [if_pos hc80] at kt
        show Steps _ _ _ (T74.setTop (mkF m 107 #[vI p1, vI p2, vI p3, vI p4, vI p5, vI 2, vI tv, vR b3, vI v77, .unset] [iI 3, iI (tv - (2 : Int32))])) _
        refine XS.icmpNo X74.here hx rfl (hb hby at_107) rfl (tlt hc80).2.1 ?_
        show Steps _ _ _ (T74.setTop (mkF m 110 #[vI p1, vI p2, vI p3, vI p4, vI p5, vI 2, vI tv, vR b3, vI v77, .unset] [])) _
        refine XS.iconst X74.here hx rfl (hb hby at_110) ?_
        show Steps _ _ _ (T74.setTop (mkF m 111 #[vI p1, vI p2, vI p3, vI p4, vI p5, vI 2, vI tv, vR b3, vI v77, .unset] [iI 0])) _
        refine XS.istore X74.here hx rfl (hb hby at_111) rfl (l' := #[vI p1, vI p2, vI p3, vI p4, vI p5, vI 2, vI tv, vR b3, vI v77, vI 0]) rfl ?_
        show Steps _ _ _ (T74.setTop (mkF m 113 #[vI p1, vI p2, vI p3, vI p4, vI p5, vI 2, vI tv, vR b3, vI v77, vI 0] [])) _
        refine XS.goto X74.here hx rfl (pc0 := 113) (pc' := 172) rfl (hb hby at_113) (by decide) (by decide) ?_
        exact kt
      · obtain ⟨cl81, Ar81, q81, S81, M81, H81, G81⟩ := V28
        have hin82 : ¬ ((2 : Int32) < 0 ∨ cl81.slots.size ≤ ((2 : Int32)).toNatClampNeg) := inb_of S81 ⟨by decide, by decide⟩
        have hat83 : cl81.slots[((2 : Int32)).toNatClampNeg]? = some (.int (nar .byte x2)) := Has.at H81 hin82 rfl
        obtain ⟨v84, hv84⟩ : ∃ z : Int32, z = (if ((nar .byte x2) &&& (255 : Int32)) = (239 : Int32) then (if ((nar .byte x3) &&& (255 : Int32)) = (187 : Int32) then (if ((nar .byte x4) &&& (255 : Int32)) = (191 : Int32) then (1 : Int32) else (0 : Int32)) else (0 : Int32)) else (0 : Int32)) := ⟨_, rfl⟩
        obtain ⟨T85, X85, e85, st85⟩ : own_Mid X74 h28 (mkF m 128 #[vI p1, vI p2, vI p3, vI p4, vI p5, vI 2, vI tv, vR b3, vI v77, .unset] [iI 239, iI ((nar .byte x2) &&& (255 : Int32))]) (mkF m 170 #[vI p1, vI p2, vI p3, vI p4, vI p5, vI 2, vI tv, vR b3, vI v77, .unset] [iI v84]) := by
          by_cases hc86 : ((nar .byte x2) &&& (255 : Int32)) = (239 : Int32)
          · have hin87 : ¬ ((3 : Int32) < 0 ∨ cl81.slots.size ≤ ((3 : Int32)).toNatClampNeg) := inb_of S81 ⟨by decide, by decide⟩
            have hat88 : cl81.slots[((3 : Int32)).toNatClampNeg]? = some (.int (nar .byte x3)) := Has.at H81 hin87 rfl
            have pre90 : ∀ t, Steps p.tables e below (T74.setTop (mkF m 145 #[vI p1, vI p2, vI p3, vI p4, vI p5, vI 2, vI tv, vR b3, vI v77, .unset] [iI 187, iI ((nar .byte x3) &&& (255 : Int32))])) t → Steps p.tables e below (T74.setTop (mkF m 128 #[vI p1, vI p2, vI p3, vI p4, vI p5, vI 2, vI tv, vR b3, vI v77, .unset] [iI 239, iI ((nar .byte x2) &&& (255 : Int32))])) t := by
              intro t kt
              show Steps _ _ _ (T74.setTop (mkF m 128 #[vI p1, vI p2, vI p3, vI p4, vI p5, vI 2, vI tv, vR b3, vI v77, .unset] [iI 239, iI ((nar .byte x2) &&& (255 : Int32))])) _
              refine XS.icmpNo X74.here hx rfl (hb hby at_128) rfl (teq hc86).2 ?_
              show Steps _ _ _ (T74.setTop (mkF m 131 #[vI p1, vI p2, vI p3, vI p4, vI p5, vI 2, vI tv, vR b3, vI v77, .unset] [])) _
              refine XS.aload X74.here hx rfl (hb hby at_131) rfl rfl ?_
              show Steps _ _ _ (T74.setTop (mkF m 133 #[vI p1, vI p2, vI p3, vI p4, vI p5, vI 2, vI tv, vR b3, vI v77, .unset] [iR b3])) _
              refine XS.iload X74.here hx rfl (hb hby at_133) rfl ?_
              show Steps _ _ _ (T74.setTop (mkF m 135 #[vI p1, vI p2, vI p3, vI p4, vI p5, vI 2, vI tv, vR b3, vI v77, .unset] [iI 2, iR b3])) _
              refine XS.iconst X74.here hx rfl (hb hby at_135) ?_
              show Steps _ _ _ (T74.setTop (mkF m 136 #[vI p1, vI p2, vI p3, vI p4, vI p5, vI 2, vI tv, vR b3, vI v77, .unset] [iI 1, iI 2, iR b3])) _
              refine XS.iadd X74.here hx rfl (hb hby at_136) rfl ?_
              rw [(by decide : ((2 : Int32) + (1 : Int32)) = (3 : Int32))]
              show Steps _ _ _ (T74.setTop (mkF m 137 #[vI p1, vI p2, vI p3, vI p4, vI p5, vI 2, vI tv, vR b3, vI v77, .unset] [iI 3, iR b3])) _
              refine X74.baloadBytes hx (j := (3 : Int32)) (v := (.int (nar .byte x3))) (by rw [e74]; exact Ar81.1) (State.isArrayOf_alike hZ.alike Ar81.2.1) Ar81.2.2 hin87 hat88 (g := (mkF m 137 #[vI p1, vI p2, vI p3, vI p4, vI p5, vI 2, vI tv, vR b3, vI v77, .unset] [iI 3, iR b3])) rfl rfl (hb hby at_137) _ ?_
              show Steps _ _ _ (T74.setTop (mkF m 138 #[vI p1, vI p2, vI p3, vI p4, vI p5, vI 2, vI tv, vR b3, vI v77, .unset] [iI (nar .byte x3)])) _
              refine XS.sipush X74.here hx rfl (hb hby at_138) ?_
              show Steps _ _ _ (T74.setTop (mkF m 141 #[vI p1, vI p2, vI p3, vI p4, vI p5, vI 2, vI tv, vR b3, vI v77, .unset] [iI 255, iI (nar .byte x3)])) _
              refine XS.iand X74.here hx rfl (hb hby at_141) rfl ?_
              show Steps _ _ _ (T74.setTop (mkF m 142 #[vI p1, vI p2, vI p3, vI p4, vI p5, vI 2, vI tv, vR b3, vI v77, .unset] [iI ((nar .byte x3) &&& (255 : Int32))])) _
              refine XS.sipush X74.here hx rfl (hb hby at_142) ?_
              exact kt
            by_cases hc89 : ((nar .byte x3) &&& (255 : Int32)) = (187 : Int32)
            · have hin91 : ¬ ((4 : Int32) < 0 ∨ cl81.slots.size ≤ ((4 : Int32)).toNatClampNeg) := inb_of S81 ⟨by decide, by decide⟩
              have hat92 : cl81.slots[((4 : Int32)).toNatClampNeg]? = some (.int (nar .byte x4)) := Has.at H81 hin91 rfl
              have pre94 : ∀ t, Steps p.tables e below (T74.setTop (mkF m 162 #[vI p1, vI p2, vI p3, vI p4, vI p5, vI 2, vI tv, vR b3, vI v77, .unset] [iI 191, iI ((nar .byte x4) &&& (255 : Int32))])) t → Steps p.tables e below (T74.setTop (mkF m 128 #[vI p1, vI p2, vI p3, vI p4, vI p5, vI 2, vI tv, vR b3, vI v77, .unset] [iI 239, iI ((nar .byte x2) &&& (255 : Int32))])) t := by
                intro t kt
                refine pre90 t ?_
                show Steps _ _ _ (T74.setTop (mkF m 145 #[vI p1, vI p2, vI p3, vI p4, vI p5, vI 2, vI tv, vR b3, vI v77, .unset] [iI 187, iI ((nar .byte x3) &&& (255 : Int32))])) _
                refine XS.icmpNo X74.here hx rfl (hb hby at_145) rfl (teq hc89).2 ?_
                show Steps _ _ _ (T74.setTop (mkF m 148 #[vI p1, vI p2, vI p3, vI p4, vI p5, vI 2, vI tv, vR b3, vI v77, .unset] [])) _
                refine XS.aload X74.here hx rfl (hb hby at_148) rfl rfl ?_
                show Steps _ _ _ (T74.setTop (mkF m 150 #[vI p1, vI p2, vI p3, vI p4, vI p5, vI 2, vI tv, vR b3, vI v77, .unset] [iR b3])) _
                refine XS.iload X74.here hx rfl (hb hby at_150) rfl ?_
                show Steps _ _ _ (T74.setTop (mkF m 152 #[vI p1, vI p2, vI p3, vI p4, vI p5, vI 2, vI tv, vR b3, vI v77, .unset] [iI 2, iR b3])) _
                refine XS.iconst X74.here hx rfl (hb hby at_152) ?_
                show Steps _ _ _ (T74.setTop (mkF m 153 #[vI p1, vI p2, vI p3, vI p4, vI p5, vI 2, vI tv, vR b3, vI v77, .unset] [iI 2, iI 2, iR b3])) _
                refine XS.iadd X74.here hx rfl (hb hby at_153) rfl ?_
                rw [(by decide : ((2 : Int32) + (2 : Int32)) = (4 : Int32))]
                show Steps _ _ _ (T74.setTop (mkF m 154 #[vI p1, vI p2, vI p3, vI p4, vI p5, vI 2, vI tv, vR b3, vI v77, .unset] [iI 4, iR b3])) _
                refine X74.baloadBytes hx (j := (4 : Int32)) (v := (.int (nar .byte x4))) (by rw [e74]; exact Ar81.1) (State.isArrayOf_alike hZ.alike Ar81.2.1) Ar81.2.2 hin91 hat92 (g := (mkF m 154 #[vI p1, vI p2, vI p3, vI p4, vI p5, vI 2, vI tv, vR b3, vI v77, .unset] [iI 4, iR b3])) rfl rfl (hb hby at_154) _ ?_
                show Steps _ _ _ (T74.setTop (mkF m 155 #[vI p1, vI p2, vI p3, vI p4, vI p5, vI 2, vI tv, vR b3, vI v77, .unset] [iI (nar .byte x4)])) _
                refine XS.sipush X74.here hx rfl (hb hby at_155) ?_
                show Steps _ _ _ (T74.setTop (mkF m 158 #[vI p1, vI p2, vI p3, vI p4, vI p5, vI 2, vI tv, vR b3, vI v77, .unset] [iI 255, iI (nar .byte x4)])) _
                refine XS.iand X74.here hx rfl (hb hby at_158) rfl ?_
                show Steps _ _ _ (T74.setTop (mkF m 159 #[vI p1, vI p2, vI p3, vI p4, vI p5, vI 2, vI tv, vR b3, vI v77, .unset] [iI ((nar .byte x4) &&& (255 : Int32))])) _
                refine XS.sipush X74.here hx rfl (hb hby at_159) ?_
                exact kt
              by_cases hc93 : ((nar .byte x4) &&& (255 : Int32)) = (191 : Int32)
              · refine ⟨T74, X74, e74, fun t kt => ?_⟩
                subst hv84
                simp only [if_pos hc86, if_pos hc89, if_pos hc93] at kt
                refine pre94 t ?_
                show Steps _ _ _ (T74.setTop (mkF m 162 #[vI p1, vI p2, vI p3, vI p4, vI p5, vI 2, vI tv, vR b3, vI v77, .unset] [iI 191, iI ((nar .byte x4) &&& (255 : Int32))])) _
                refine XS.icmpNo X74.here hx rfl (hb hby at_162) rfl (teq hc93).2 ?_
                show Steps _ _ _ (T74.setTop (mkF m 165 #[vI p1, vI p2, vI p3, vI p4, vI p5, vI 2, vI tv, vR b3, vI v77, .unset] [])) _
                refine XS.iconst X74.here hx rfl (hb hby at_165) ?_
                show Steps _ _ _ (T74.setTop (mkF m 166 #[vI p1, vI p2, vI p3, vI p4, vI p5, vI 2, vI tv, vR b3, vI v77, .unset] [iI 1])) _
                refine XS.goto X74.here hx rfl (pc0 := 166) (pc' := 170) rfl (hb hby at_166) (by decide) (by decide) ?_
                exact kt
              · refine ⟨T74, X74, e74, fun t kt => ?_⟩
                subst hv84
                simp only [if_pos hc86, if_pos hc89, if_neg hc93] at kt
                refine pre94 t ?_
                show Steps _ _ _ (T74.setTop (mkF m 162 #[vI p1, vI p2, vI p3, vI p4, vI p5, vI 2, vI tv, vR b3, vI v77, .unset] [iI 191, iI ((nar .byte x4) &&& (255 : Int32))])) _
                refine XS.icmpYes X74.here hx rfl (pc0 := 162) (pc' := 169) rfl (hb hby at_162) rfl (feq hc93).2 (by decide) (by decide) ?_
                show Steps _ _ _ (T74.setTop (mkF m 169 #[vI p1, vI p2, vI p3, vI p4, vI p5, vI 2, vI tv, vR b3, vI v77, .unset] [])) _
                refine XS.iconst X74.here hx rfl (hb hby at_169) ?_
                exact kt
            · refine ⟨T74, X74, e74, fun t kt => ?_⟩
              subst hv84
              simp only [if_pos hc86, if_neg hc89] at kt
              refine pre90 t ?_
              show Steps _ _ _ (T74.setTop (mkF m 145 #[vI p1, vI p2, vI p3, vI p4, vI p5, vI 2, vI tv, vR b3, vI v77, .unset] [iI 187, iI ((nar .byte x3) &&& (255 : Int32))])) _
              refine XS.icmpYes X74.here hx rfl (pc0 := 145) (pc' := 169) rfl (hb hby at_145) rfl (feq hc89).2 (by decide) (by decide) ?_
              show Steps _ _ _ (T74.setTop (mkF m 169 #[vI p1, vI p2, vI p3, vI p4, vI p5, vI 2, vI tv, vR b3, vI v77, .unset] [])) _
              refine XS.iconst X74.here hx rfl (hb hby at_169) ?_
              exact kt
          · refine ⟨T74, X74, e74, fun t kt => ?_⟩
            subst hv84
            simp only [if_neg hc86] at kt
            show Steps _ _ _ (T74.setTop (mkF m 128 #[vI p1, vI p2, vI p3, vI p4, vI p5, vI 2, vI tv, vR b3, vI v77, .unset] [iI 239, iI ((nar .byte x2) &&& (255 : Int32))])) _
            refine XS.icmpYes X74.here hx rfl (pc0 := 128) (pc' := 169) rfl (hb hby at_128) rfl (feq hc86).2 (by decide) (by decide) ?_
            show Steps _ _ _ (T74.setTop (mkF m 169 #[vI p1, vI p2, vI p3, vI p4, vI p5, vI 2, vI tv, vR b3, vI v77, .unset] [])) _
            refine XS.iconst X74.here hx rfl (hb hby at_169) ?_
            exact kt
        refine ⟨T85, X85, e85, fun t kt => ?_⟩
        subst hv78
        simp only [if_neg hc80] at kt
        show Steps _ _ _ (T74.setTop (mkF m 107 #[vI p1, vI p2, vI p3, vI p4, vI p5, vI 2, vI tv, vR b3, vI v77, .unset] [iI 3, iI (tv - (2 : Int32))])) _
        refine XS.icmpYes X74.here hx rfl (pc0 := 107) (pc' := 116) rfl (hb hby at_107) rfl (flt hc80).2.1 (by decide) (by decide) ?_
        show Steps _ _ _ (T74.setTop (mkF m 116 #[vI p1, vI p2, vI p3, vI p4, vI p5, vI 2, vI tv, vR b3, vI v77, .unset] [])) _
        refine XS.aload X74.here hx rfl (hb hby at_116) rfl rfl ?_
        show Steps _ _ _ (T74.setTop (mkF m 118 #[vI p1, vI p2, vI p3, vI p4, vI p5, vI 2, vI tv, vR b3, vI v77, .unset] [iR b3])) _
        refine XS.iload X74.here hx rfl (hb hby at_118) rfl ?_
        show Steps _ _ _ (T74.setTop (mkF m 120 #[vI p1, vI p2, vI p3, vI p4, vI p5, vI 2, vI tv, vR b3, vI v77, .unset] [iI 2, iR b3])) _
        refine X74.baloadBytes hx (j := (2 : Int32)) (v := (.int (nar .byte x2))) (by rw [e74]; exact Ar81.1) (State.isArrayOf_alike hZ.alike Ar81.2.1) Ar81.2.2 hin82 hat83 (g := (mkF m 120 #[vI p1, vI p2, vI p3, vI p4, vI p5, vI 2, vI tv, vR b3, vI v77, .unset] [iI 2, iR b3])) rfl rfl (hb hby at_120) _ ?_
        show Steps _ _ _ (T74.setTop (mkF m 121 #[vI p1, vI p2, vI p3, vI p4, vI p5, vI 2, vI tv, vR b3, vI v77, .unset] [iI (nar .byte x2)])) _
        refine XS.sipush X74.here hx rfl (hb hby at_121) ?_
        show Steps _ _ _ (T74.setTop (mkF m 124 #[vI p1, vI p2, vI p3, vI p4, vI p5, vI 2, vI tv, vR b3, vI v77, .unset] [iI 255, iI (nar .byte x2)])) _
        refine XS.iand X74.here hx rfl (hb hby at_124) rfl ?_
        show Steps _ _ _ (T74.setTop (mkF m 125 #[vI p1, vI p2, vI p3, vI p4, vI p5, vI 2, vI tv, vR b3, vI v77, .unset] [iI ((nar .byte x2) &&& (255 : Int32))])) _
        refine XS.sipush X74.here hx rfl (hb hby at_125) ?_
        show Steps _ _ _ (T74.setTop (mkF m 128 #[vI p1, vI p2, vI p3, vI p4, vI p5, vI 2, vI tv, vR b3, vI v77, .unset] [iI 239, iI ((nar .byte x2) &&& (255 : Int32))])) _
        refine st85 _ ?_
        show Steps _ _ _ (T85.setTop (mkF m 170 #[vI p1, vI p2, vI p3, vI p4, vI p5, vI 2, vI tv, vR b3, vI v77, .unset] [iI v84])) _
        refine XS.istore X85.here hx rfl (hb hby at_170) rfl (l' := #[vI p1, vI p2, vI p3, vI p4, vI p5, vI 2, vI tv, vR b3, vI v77, vI v84]) rfl ?_
        subst hv84
        exact kt
    have hh95 : v77 = v78 := (by rw [hv77, hv78]; exact own_q_2 _ _ _ _ _ _ (own_nb _) (own_nb _) (own_nb _))
    obtain ⟨fs, hr, hrun, hended, hW, hsame⟩ := X79.leave (v := some (.int (1 : Int32))) (fun h => by rw [Bd.returns] at h; cases h)
    refine ⟨_, _, pre29 _ ?_, hrun, hended, _, _, rfl, ?_, ⟨_, rfl⟩, hW, hsame.mono (by decide) (by decide)⟩
    · show Steps _ _ _ (T28.setTop (mkF m 90 #[vI p1, vI p2, vI p3, vI p4, vI p5, vI 2, vI tv, vR b3, .unset, .unset] [])) _
      refine XS.aload X28.here hx rfl (hb hby at_90) rfl rfl ?_
      show Steps _ _ _ (T28.setTop (mkF m 92 #[vI p1, vI p2, vI p3, vI p4, vI p5, vI 2, vI tv, vR b3, .unset, .unset] [iR b3])) _
      refine XS.iload X28.here hx rfl (hb hby at_92) rfl ?_
      show Steps _ _ _ (T28.setTop (mkF m 94 #[vI p1, vI p2, vI p3, vI p4, vI p5, vI 2, vI tv, vR b3, .unset, .unset] [iI 2, iR b3])) _
      refine XS.iload X28.here hx rfl (hb hby at_94) rfl ?_
      show Steps _ _ _ (T28.setTop (mkF m 96 #[vI p1, vI p2, vI p3, vI p4, vI p5, vI 2, vI tv, vR b3, .unset, .unset] [iI tv, iI 2, iR b3])) _
      refine st74 _ ?_
      show Steps _ _ _ (T74.setTop (mkF m 99 #[vI p1, vI p2, vI p3, vI p4, vI p5, vI 2, vI tv, vR b3, .unset, .unset] [iI (own_sw_2 tv (nar .byte x0) (nar .byte x1) (nar .byte x2) (nar .byte x3) (nar .byte x4))])) _
      refine XS.istore X74.here hx rfl (hb hby at_99) rfl (l' := #[vI p1, vI p2, vI p3, vI p4, vI p5, vI 2, vI tv, vR b3, vI (own_sw_2 tv (nar .byte x0) (nar .byte x1) (nar .byte x2) (nar .byte x3) (nar .byte x4)), .unset]) rfl ?_
      rw [← hv77]
      show Steps _ _ _ (T74.setTop (mkF m 101 #[vI p1, vI p2, vI p3, vI p4, vI p5, vI 2, vI tv, vR b3, vI v77, .unset] [])) _
      refine XS.iload X74.here hx rfl (hb hby at_101) rfl ?_
      show Steps _ _ _ (T74.setTop (mkF m 103 #[vI p1, vI p2, vI p3, vI p4, vI p5, vI 2, vI tv, vR b3, vI v77, .unset] [iI tv])) _
      refine XS.iload X74.here hx rfl (hb hby at_103) rfl ?_
      show Steps _ _ _ (T74.setTop (mkF m 105 #[vI p1, vI p2, vI p3, vI p4, vI p5, vI 2, vI tv, vR b3, vI v77, .unset] [iI 2, iI tv])) _
      refine XS.isub X74.here hx rfl (hb hby at_105) rfl ?_
      show Steps _ _ _ (T74.setTop (mkF m 106 #[vI p1, vI p2, vI p3, vI p4, vI p5, vI 2, vI tv, vR b3, vI v77, .unset] [iI (tv - (2 : Int32))])) _
      refine XS.iconst X74.here hx rfl (hb hby at_106) ?_
      show Steps _ _ _ (T74.setTop (mkF m 107 #[vI p1, vI p2, vI p3, vI p4, vI p5, vI 2, vI tv, vR b3, vI v77, .unset] [iI 3, iI (tv - (2 : Int32))])) _
      refine st79 _ ?_
      show Steps _ _ _ (T79.setTop (mkF m 172 #[vI p1, vI p2, vI p3, vI p4, vI p5, vI 2, vI tv, vR b3, vI v77, vI v78] [])) _
      refine XS.iload X79.here hx rfl (hb hby at_172) rfl ?_
      show Steps _ _ _ (T79.setTop (mkF m 174 #[vI p1, vI p2, vI p3, vI p4, vI p5, vI 2, vI tv, vR b3, vI v77, vI v78] [iI v77])) _
      refine XS.iload X79.here hx rfl (hb hby at_174) rfl ?_
      show Steps _ _ _ (T79.setTop (mkF m 176 #[vI p1, vI p2, vI p3, vI p4, vI p5, vI 2, vI tv, vR b3, vI v77, vI v78] [iI v78, iI v77])) _
      refine XS.icmpNo X79.here hx rfl (hb hby at_176) rfl (teq hh95).2 ?_
      show Steps _ _ _ (T79.setTop (mkF m 179 #[vI p1, vI p2, vI p3, vI p4, vI p5, vI 2, vI tv, vR b3, vI v77, vI v78] [])) _
      refine XS.iconst X79.here hx rfl (hb hby at_179) ?_
      show Steps _ _ _ (T79.setTop (mkF m 180 #[vI p1, vI p2, vI p3, vI p4, vI p5, vI 2, vI tv, vR b3, vI v77, vI v78] [iI 1])) _
      refine XS.goto X79.here hx rfl (pc0 := 180) (pc' := 184) rfl (hb hby at_180) (by decide) (by decide) ?_
      show Steps _ _ _ (T79.setTop (mkF m 184 #[vI p1, vI p2, vI p3, vI p4, vI p5, vI 2, vI tv, vR b3, vI v77, vI v78] [iI 1])) _
      exact retN X79 hx (t := .boolean) Bd.returns (by simp) (hb hby at_184) hr
    · show Q0 Z p1 p2 p3 p4 p5 s_B kB h0 n0 _ T79.heap _
      rw [e79]
      exact ⟨rfl, N28⟩
  · have hto : (tv - (3 : Int32)) < (3 : Int32) := by rw [htv]; exact own_to _ _ (Int.lt_of_lt_of_le (own_rem p5 _ 3 rfl (by decide)).2 (by decide))
    have fk97 := ((((((S_B.ext E3).wr W8).wr W13).wr W18).wr W23).wr W28)
    have fk98 := ((((((V_B.ext E3).other W8 ne_s_B_b3).other W13 ne_s_B_b3).other W18 ne_s_B_b3).other W23 ne_s_B_b3).other W28 ne_s_B_b3)
    obtain ⟨_, _, ⟨T96, L96, k96, n96⟩, -, X96, ⟨Lc96, hQ96, l96, y96, z96⟩, st96⟩ := Jvm.LawKit.callS X28 hx (y := (⟨"com/example/tidemine/tidemine/TextFormat", "startsWithByteOrderMark", "([BII)Z"⟩ : MethodName)) hown (mvT hZ (hw _ (List.mem_of_getElem? (i := 6) rfl))) (mvT hZ (hw _ (List.mem_of_getElem? (i := 7) rfl))) (mvT hZ (hw _ (List.mem_of_getElem? (i := 8) rfl))) (mvT hZ (hw _ (List.mem_of_getElem? (i := 9) rfl))) (by decide) (backOf (W := 0) (rm2_3 l Z a0 hw [] b3 tv (nar .byte x0) (nar .byte x1) (nar .byte x2) (nar .byte x3) (nar .byte x4) k3 s_B kB h28 fk97 fk98 V28 hto) hZ (hw _ (List.mem_of_getElem? (i := 9) rfl)) (hw _ (List.mem_of_getElem? (i := 8) rfl)) (by decide) (by decide)) (g := (mkF m 96 #[vI p1, vI p2, vI p3, vI p4, vI p5, vI 3, vI tv, vR b3, .unset, .unset] [iI tv, iI 3, iR b3])) rfl (by rw [hml]; rfl) (argsL := [(.ref b3), (.int (3 : Int32)), (.int tv)]) (rest := []) (lenOf pd_1 rfl) rfl (by show 2 * 0 + _ ≤ _; exact Nat.le_of_eq rfl) (hb hby at_96) (fun _ _ => ⟨rfl, e28, (by decide : 1 + 0 ≤ _), (by decide : 5 + 0 ≤ _)⟩)
    dsimp only [Pt.U, Pt.locs, Pt.cells, Pt.slots] at X96 l96 y96 z96 st96 hQ96
    subst l96 y96 z96
    obtain ⟨rfl, rfl, e96⟩ := hQ96
    try rw [List.append_nil] at X96
    obtain ⟨v99, hv99⟩ : ∃ z : Int32, z = (own_sw_3 tv (nar .byte x0) (nar .byte x1) (nar .byte x2) (nar .byte x3) (nar .byte x4)) := ⟨_, rfl⟩
    have hh100 : (tv - (3 : Int32)) < (3 : Int32) := hto
    have hh101 : v99 = (0 : Int32) := (by rw [hv99]; rfl)
    obtain ⟨fs, hr, hrun, hended, hW, hsame⟩ := X96.leave (v := some (.int (1 : Int32))) (fun h => by rw [Bd.returns] at h; cases h)
    refine ⟨_, _, pre29 _ ?_, hrun, hended, _, _, rfl, ?_, ⟨_, rfl⟩, hW, hsame.mono (by decide) (by decide)⟩
    · show Steps _ _ _ (T28.setTop (mkF m 90 #[vI p1, vI p2, vI p3, vI p4, vI p5, vI 3, vI tv, vR b3, .unset, .unset] [])) _
      refine XS.aload X28.here hx rfl (hb hby at_90) rfl rfl ?_
      show Steps _ _ _ (T28.setTop (mkF m 92 #[vI p1, vI p2, vI p3, vI p4, vI p5, vI 3, vI tv, vR b3, .unset, .unset] [iR b3])) _
      refine XS.iload X28.here hx rfl (hb hby at_92) rfl ?_
      show Steps _ _ _ (T28.setTop (mkF m 94 #[vI p1, vI p2, vI p3, vI p4, vI p5, vI 3, vI tv, vR b3, .unset, .unset] [iI 3, iR b3])) _
      refine XS.iload X28.here hx rfl (hb hby at_94) rfl ?_
      show Steps _ _ _ (T28.setTop (mkF m 96 #[vI p1, vI p2, vI p3, vI p4, vI p5, vI 3, vI tv, vR b3, .unset, .unset] [iI tv, iI 3, iR b3])) _
      refine st96 _ ?_
      show Steps _ _ _ (T96.setTop (mkF m 99 #[vI p1, vI p2, vI p3, vI p4, vI p5, vI 3, vI tv, vR b3, .unset, .unset] [iI (own_sw_3 tv (nar .byte x0) (nar .byte x1) (nar .byte x2) (nar .byte x3) (nar .byte x4))])) _
      refine XS.istore X96.here hx rfl (hb hby at_99) rfl (l' := #[vI p1, vI p2, vI p3, vI p4, vI p5, vI 3, vI tv, vR b3, vI (own_sw_3 tv (nar .byte x0) (nar .byte x1) (nar .byte x2) (nar .byte x3) (nar .byte x4)), .unset]) rfl ?_
      rw [← hv99]
      show Steps _ _ _ (T96.setTop (mkF m 101 #[vI p1, vI p2, vI p3, vI p4, vI p5, vI 3, vI tv, vR b3, vI v99, .unset] [])) _
      refine XS.iload X96.here hx rfl (hb hby at_101) rfl ?_
      show Steps _ _ _ (T96.setTop (mkF m 103 #[vI p1, vI p2, vI p3, vI p4, vI p5, vI 3, vI tv, vR b3, vI v99, .unset] [iI tv])) _
      refine XS.iload X96.here hx rfl (hb hby at_103) rfl ?_
      show Steps _ _ _ (T96.setTop (mkF m 105 #[vI p1, vI p2, vI p3, vI p4, vI p5, vI 3, vI tv, vR b3, vI v99, .unset] [iI 3, iI tv])) _
      refine XS.isub X96.here hx rfl (hb hby at_105) rfl ?_
      show Steps _ _ _ (T96.setTop (mkF m 106 #[vI p1, vI p2, vI p3, vI p4, vI p5, vI 3, vI tv, vR b3, vI v99, .unset] [iI (tv - (3 : Int32))])) _
      refine XS.iconst X96.here hx rfl (hb hby at_106) ?_
      show Steps _ _ _ (T96.setTop (mkF m 107 #[vI p1, vI p2, vI p3, vI p4, vI p5, vI 3, vI tv, vR b3, vI v99, .unset] [iI 3, iI (tv - (3 : Int32))])) _
      refine XS.icmpNo X96.here hx rfl (hb hby at_107) rfl (tlt hh100).2.1 ?_
      show Steps _ _ _ (T96.setTop (mkF m 110 #[vI p1, vI p2, vI p3, vI p4, vI p5, vI 3, vI tv, vR b3, vI v99, .unset] [])) _
      refine XS.iconst X96.here hx rfl (hb hby at_110) ?_
      show Steps _ _ _ (T96.setTop (mkF m 111 #[vI p1, vI p2, vI p3, vI p4, vI p5, vI 3, vI tv, vR b3, vI v99, .unset] [iI 0])) _
      refine XS.istore X96.here hx rfl (hb hby at_111) rfl (l' := #[vI p1, vI p2, vI p3, vI p4, vI p5, vI 3, vI tv, vR b3, vI v99, vI 0]) rfl ?_
      show Steps _ _ _ (T96.setTop (mkF m 113 #[vI p1, vI p2, vI p3, vI p4, vI p5, vI 3, vI tv, vR b3, vI v99, vI 0] [])) _
      refine XS.goto X96.here hx rfl (pc0 := 113) (pc' := 172) rfl (hb hby at_113) (by decide) (by decide) ?_
      show Steps _ _ _ (T96.setTop (mkF m 172 #[vI p1, vI p2, vI p3, vI p4, vI p5, vI 3, vI tv, vR b3, vI v99, vI 0] [])) _
      refine XS.iload X96.here hx rfl (hb hby at_172) rfl ?_
      show Steps _ _ _ (T96.setTop (mkF m 174 #[vI p1, vI p2, vI p3, vI p4, vI p5, vI 3, vI tv, vR b3, vI v99, vI 0] [iI v99])) _
      refine XS.iload X96.here hx rfl (hb hby at_174) rfl ?_
      show Steps _ _ _ (T96.setTop (mkF m 176 #[vI p1, vI p2, vI p3, vI p4, vI p5, vI 3, vI tv, vR b3, vI v99, vI 0] [iI 0, iI v99])) _
      refine XS.icmpNo X96.here hx rfl (hb hby at_176) rfl (teq hh101).2 ?_
      show Steps _ _ _ (T96.setTop (mkF m 179 #[vI p1, vI p2, vI p3, vI p4, vI p5, vI 3, vI tv, vR b3, vI v99, vI 0] [])) _
      refine XS.iconst X96.here hx rfl (hb hby at_179) ?_
      show Steps _ _ _ (T96.setTop (mkF m 180 #[vI p1, vI p2, vI p3, vI p4, vI p5, vI 3, vI tv, vR b3, vI v99, vI 0] [iI 1])) _
      refine XS.goto X96.here hx rfl (pc0 := 180) (pc' := 184) rfl (hb hby at_180) (by decide) (by decide) ?_
      show Steps _ _ _ (T96.setTop (mkF m 184 #[vI p1, vI p2, vI p3, vI p4, vI p5, vI 3, vI tv, vR b3, vI v99, vI 0] [iI 1])) _
      exact retN X96 hx (t := .boolean) Bd.returns (by simp) (hb hby at_184) hr
    · show Q0 Z p1 p2 p3 p4 p5 s_B kB h0 n0 _ T96.heap _
      rw [e96]
      exact ⟨rfl, N28⟩
  · have hto : (tv - (4 : Int32)) < (3 : Int32) := by rw [htv]; exact own_to _ _ (Int.lt_of_lt_of_le (own_rem p5 _ 2 rfl (by decide)).2 (by decide))
    have fk103 := ((((((S_B.ext E3).wr W8).wr W13).wr W18).wr W23).wr W28)
    have fk104 := ((((((V_B.ext E3).other W8 ne_s_B_b3).other W13 ne_s_B_b3).other W18 ne_s_B_b3).other W23 ne_s_B_b3).other W28 ne_s_B_b3)
    obtain ⟨_, _, ⟨T102, L102, k102, n102⟩, -, X102, ⟨Lc102, hQ102, l102, y102, z102⟩, st102⟩ := Jvm.LawKit.callS X28 hx (y := (⟨"com/example/tidemine/tidemine/TextFormat", "startsWithByteOrderMark", "([BII)Z"⟩ : MethodName)) hown (mvT hZ (hw _ (List.mem_of_getElem? (i := 6) rfl))) (mvT hZ (hw _ (List.mem_of_getElem? (i := 7) rfl))) (mvT hZ (hw _ (List.mem_of_getElem? (i := 8) rfl))) (mvT hZ (hw _ (List.mem_of_getElem? (i := 9) rfl))) (by decide) (backOf (W := 0) (rm2_4 l Z a0 hw [] b3 tv (nar .byte x0) (nar .byte x1) (nar .byte x2) (nar .byte x3) (nar .byte x4) k3 s_B kB h28 fk103 fk104 V28 hto) hZ (hw _ (List.mem_of_getElem? (i := 9) rfl)) (hw _ (List.mem_of_getElem? (i := 8) rfl)) (by decide) (by decide)) (g := (mkF m 96 #[vI p1, vI p2, vI p3, vI p4, vI p5, vI 4, vI tv, vR b3, .unset, .unset] [iI tv, iI 4, iR b3])) rfl (by rw [hml]; rfl) (argsL := [(.ref b3), (.int (4 : Int32)), (.int tv)]) (rest := []) (lenOf pd_1 rfl) rfl (by show 2 * 0 + _ ≤ _; exact Nat.le_of_eq rfl) (hb hby at_96) (fun _ _ => ⟨rfl, e28, (by decide : 1 + 0 ≤ _), (by decide : 5 + 0 ≤ _)⟩)
    dsimp only [Pt.U, Pt.locs, Pt.cells, Pt.slots] at X102 l102 y102 z102 st102 hQ102
    subst l102 y102 z102
    obtain ⟨rfl, rfl, e102⟩ := hQ102
    try rw [List.append_nil] at X102
    obtain ⟨v105, hv105⟩ : ∃ z : Int32, z = (own_sw_4 tv (nar .byte x0) (nar .byte x1) (nar .byte x2) (nar .byte x3) (nar .byte x4)) := ⟨_, rfl⟩
    have hh106 : (tv - (4 : Int32)) < (3 : Int32) := hto
    have hh107 : v105 = (0 : Int32) := (by rw [hv105]; rfl)
    obtain ⟨fs, hr, hrun, hended, hW, hsame⟩ := X102.leave (v := some (.int (1 : Int32))) (fun h => by rw [Bd.returns] at h; cases h)
    refine ⟨_, _, pre29 _ ?_, hrun, hended, _, _, rfl, ?_, ⟨_, rfl⟩, hW, hsame.mono (by decide) (by decide)⟩
    · show Steps _ _ _ (T28.setTop (mkF m 90 #[vI p1, vI p2, vI p3, vI p4, vI p5, vI 4, vI tv, vR b3, .unset, .unset] [])) _
      refine XS.aload X28.here hx rfl (hb hby at_90) rfl rfl ?_
      show Steps _ _ _ (T28.setTop (mkF m 92 #[vI p1, vI p2, vI p3, vI p4, vI p5, vI 4, vI tv, vR b3, .unset, .unset] [iR b3])) _
      refine XS.iload X28.here hx rfl (hb hby at_92) rfl ?_
      show Steps _ _ _ (T28.setTop (mkF m 94 #[vI p1, vI p2, vI p3, vI p4, vI p5, vI 4, vI tv, vR b3, .unset, .unset] [iI 4, iR b3])) _
      refine XS.iload X28.here hx rfl (hb hby at_94) rfl ?_
      show Steps _ _ _ (T28.setTop (mkF m 96 #[vI p1, vI p2, vI p3, vI p4, vI p5, vI 4, vI tv, vR b3, .unset, .unset] [iI tv, iI 4, iR b3])) _
      refine st102 _ ?_
      show Steps _ _ _ (T102.setTop (mkF m 99 #[vI p1, vI p2, vI p3, vI p4, vI p5, vI 4, vI tv, vR b3, .unset, .unset] [iI (own_sw_4 tv (nar .byte x0) (nar .byte x1) (nar .byte x2) (nar .byte x3) (nar .byte x4))])) _
      refine XS.istore X102.here hx rfl (hb hby at_99) rfl (l' := #[vI p1, vI p2, vI p3, vI p4, vI p5, vI 4, vI tv, vR b3, vI (own_sw_4 tv (nar .byte x0) (nar .byte x1) (nar .byte x2) (nar .byte x3) (nar .byte x4)), .unset]) rfl ?_
      rw [← hv105]
      show Steps _ _ _ (T102.setTop (mkF m 101 #[vI p1, vI p2, vI p3, vI p4, vI p5, vI 4, vI tv, vR b3, vI v105, .unset] [])) _
      refine XS.iload X102.here hx rfl (hb hby at_101) rfl ?_
      show Steps _ _ _ (T102.setTop (mkF m 103 #[vI p1, vI p2, vI p3, vI p4, vI p5, vI 4, vI tv, vR b3, vI v105, .unset] [iI tv])) _
      refine XS.iload X102.here hx rfl (hb hby at_103) rfl ?_
      show Steps _ _ _ (T102.setTop (mkF m 105 #[vI p1, vI p2, vI p3, vI p4, vI p5, vI 4, vI tv, vR b3, vI v105, .unset] [iI 4, iI tv])) _
      refine XS.isub X102.here hx rfl (hb hby at_105) rfl ?_
      show Steps _ _ _ (T102.setTop (mkF m 106 #[vI p1, vI p2, vI p3, vI p4, vI p5, vI 4, vI tv, vR b3, vI v105, .unset] [iI (tv - (4 : Int32))])) _
      refine XS.iconst X102.here hx rfl (hb hby at_106) ?_
      show Steps _ _ _ (T102.setTop (mkF m 107 #[vI p1, vI p2, vI p3, vI p4, vI p5, vI 4, vI tv, vR b3, vI v105, .unset] [iI 3, iI (tv - (4 : Int32))])) _
      refine XS.icmpNo X102.here hx rfl (hb hby at_107) rfl (tlt hh106).2.1 ?_
      show Steps _ _ _ (T102.setTop (mkF m 110 #[vI p1, vI p2, vI p3, vI p4, vI p5, vI 4, vI tv, vR b3, vI v105, .unset] [])) _
      refine XS.iconst X102.here hx rfl (hb hby at_110) ?_
      show Steps _ _ _ (T102.setTop (mkF m 111 #[vI p1, vI p2, vI p3, vI p4, vI p5, vI 4, vI tv, vR b3, vI v105, .unset] [iI 0])) _
      refine XS.istore X102.here hx rfl (hb hby at_111) rfl (l' := #[vI p1, vI p2, vI p3, vI p4, vI p5, vI 4, vI tv, vR b3, vI v105, vI 0]) rfl ?_
      show Steps _ _ _ (T102.setTop (mkF m 113 #[vI p1, vI p2, vI p3, vI p4, vI p5, vI 4, vI tv, vR b3, vI v105, vI 0] [])) _
      refine XS.goto X102.here hx rfl (pc0 := 113) (pc' := 172) rfl (hb hby at_113) (by decide) (by decide) ?_
      show Steps _ _ _ (T102.setTop (mkF m 172 #[vI p1, vI p2, vI p3, vI p4, vI p5, vI 4, vI tv, vR b3, vI v105, vI 0] [])) _
      refine XS.iload X102.here hx rfl (hb hby at_172) rfl ?_
      show Steps _ _ _ (T102.setTop (mkF m 174 #[vI p1, vI p2, vI p3, vI p4, vI p5, vI 4, vI tv, vR b3, vI v105, vI 0] [iI v105])) _
      refine XS.iload X102.here hx rfl (hb hby at_174) rfl ?_
      show Steps _ _ _ (T102.setTop (mkF m 176 #[vI p1, vI p2, vI p3, vI p4, vI p5, vI 4, vI tv, vR b3, vI v105, vI 0] [iI 0, iI v105])) _
      refine XS.icmpNo X102.here hx rfl (hb hby at_176) rfl (teq hh107).2 ?_
      show Steps _ _ _ (T102.setTop (mkF m 179 #[vI p1, vI p2, vI p3, vI p4, vI p5, vI 4, vI tv, vR b3, vI v105, vI 0] [])) _
      refine XS.iconst X102.here hx rfl (hb hby at_179) ?_
      show Steps _ _ _ (T102.setTop (mkF m 180 #[vI p1, vI p2, vI p3, vI p4, vI p5, vI 4, vI tv, vR b3, vI v105, vI 0] [iI 1])) _
      refine XS.goto X102.here hx rfl (pc0 := 180) (pc' := 184) rfl (hb hby at_180) (by decide) (by decide) ?_
      show Steps _ _ _ (T102.setTop (mkF m 184 #[vI p1, vI p2, vI p3, vI p4, vI p5, vI 4, vI tv, vR b3, vI v105, vI 0] [iI 1])) _
      exact retN X102 hx (t := .boolean) Bd.returns (by simp) (hb hby at_184) hr
    · show Q0 Z p1 p2 p3 p4 p5 s_B kB h0 n0 _ T102.heap _
      rw [e102]
      exact ⟨rfl, N28⟩
  · have hto : (tv - (5 : Int32)) < (3 : Int32) := by rw [htv]; exact own_to _ _ (Int.lt_of_lt_of_le (own_rem p5 _ 1 rfl (by decide)).2 (by decide))
    have fk109 := ((((((S_B.ext E3).wr W8).wr W13).wr W18).wr W23).wr W28)
    have fk110 := ((((((V_B.ext E3).other W8 ne_s_B_b3).other W13 ne_s_B_b3).other W18 ne_s_B_b3).other W23 ne_s_B_b3).other W28 ne_s_B_b3)
    obtain ⟨_, _, ⟨T108, L108, k108, n108⟩, -, X108, ⟨Lc108, hQ108, l108, y108, z108⟩, st108⟩ := Jvm.LawKit.callS X28 hx (y := (⟨"com/example/tidemine/tidemine/TextFormat", "startsWithByteOrderMark", "([BII)Z"⟩ : MethodName)) hown (mvT hZ (hw _ (List.mem_of_getElem? (i := 6) rfl))) (mvT hZ (hw _ (List.mem_of_getElem? (i := 7) rfl))) (mvT hZ (hw _ (List.mem_of_getElem? (i := 8) rfl))) (mvT hZ (hw _ (List.mem_of_getElem? (i := 9) rfl))) (by decide) (backOf (W := 0) (rm2_5 l Z a0 hw [] b3 tv (nar .byte x0) (nar .byte x1) (nar .byte x2) (nar .byte x3) (nar .byte x4) k3 s_B kB h28 fk109 fk110 V28 hto) hZ (hw _ (List.mem_of_getElem? (i := 9) rfl)) (hw _ (List.mem_of_getElem? (i := 8) rfl)) (by decide) (by decide)) (g := (mkF m 96 #[vI p1, vI p2, vI p3, vI p4, vI p5, vI 5, vI tv, vR b3, .unset, .unset] [iI tv, iI 5, iR b3])) rfl (by rw [hml]; rfl) (argsL := [(.ref b3), (.int (5 : Int32)), (.int tv)]) (rest := []) (lenOf pd_1 rfl) rfl (by show 2 * 0 + _ ≤ _; exact Nat.le_of_eq rfl) (hb hby at_96) (fun _ _ => ⟨rfl, e28, (by decide : 1 + 0 ≤ _), (by decide : 5 + 0 ≤ _)⟩)
    dsimp only [Pt.U, Pt.locs, Pt.cells, Pt.slots] at X108 l108 y108 z108 st108 hQ108
    subst l108 y108 z108
    obtain ⟨rfl, rfl, e108⟩ := hQ108
    try rw [List.append_nil] at X108
    obtain ⟨v111, hv111⟩ : ∃ z : Int32, z = (own_sw_5 tv (nar .byte x0) (nar .byte x1) (nar .byte x2) (nar .byte x3) (nar .byte x4)) := ⟨_, rfl⟩
    have hh112 : (tv - (5 : Int32)) < (3 : Int32) := hto
    have hh113 : v111 = (0 : Int32) := (by rw [hv111]; rfl)
    obtain ⟨fs, hr, hrun, hended, hW, hsame⟩ := X108.leave (v := some (.int (1 : Int32))) (fun h => by rw [Bd.returns] at h; cases h)
    refine ⟨_, _, pre29 _ ?_, hrun, hended, _, _, rfl, ?_, ⟨_, rfl⟩, hW, hsame.mono (by decide) (by decide)⟩
    · show Steps _ _ _ (T28.setTop (mkF m 90 #[vI p1, vI p2, vI p3, vI p4, vI p5, vI 5, vI tv, vR b3, .unset, .unset] [])) _
      refine XS.aload X28.here hx rfl (hb hby at_90) rfl rfl ?_
      show Steps _ _ _ (T28.setTop (mkF m 92 #[vI p1, vI p2, vI p3, vI p4, vI p5, vI 5, vI tv, vR b3, .unset, .unset] [iR b3])) _
      refine XS.iload X28.here hx rfl (hb hby at_92) rfl ?_
      show Steps _ _ _ (T28.setTop (mkF m 94 #[vI p1, vI p2, vI p3, vI p4, vI p5, vI 5, vI tv, vR b3, .unset, .unset] [iI 5, iR b3])) _
      refine XS.iload X28.here hx rfl (hb hby at_94) rfl ?_
      show Steps _ _ _ (T28.setTop (mkF m 96 #[vI p1, vI p2, vI p3, vI p4, vI p5, vI 5, vI tv, vR b3, .unset, .unset] [iI tv, iI 5, iR b3])) _
      refine st108 _ ?_
      show Steps _ _ _ (T108.setTop (mkF m 99 #[vI p1, vI p2, vI p3, vI p4, vI p5, vI 5, vI tv, vR b3, .unset, .unset] [iI (own_sw_5 tv (nar .byte x0) (nar .byte x1) (nar .byte x2) (nar .byte x3) (nar .byte x4))])) _
      refine XS.istore X108.here hx rfl (hb hby at_99) rfl (l' := #[vI p1, vI p2, vI p3, vI p4, vI p5, vI 5, vI tv, vR b3, vI (own_sw_5 tv (nar .byte x0) (nar .byte x1) (nar .byte x2) (nar .byte x3) (nar .byte x4)), .unset]) rfl ?_
      rw [← hv111]
      show Steps _ _ _ (T108.setTop (mkF m 101 #[vI p1, vI p2, vI p3, vI p4, vI p5, vI 5, vI tv, vR b3, vI v111, .unset] [])) _
      refine XS.iload X108.here hx rfl (hb hby at_101) rfl ?_
      show Steps _ _ _ (T108.setTop (mkF m 103 #[vI p1, vI p2, vI p3, vI p4, vI p5, vI 5, vI tv, vR b3, vI v111, .unset] [iI tv])) _
      refine XS.iload X108.here hx rfl (hb hby at_103) rfl ?_
      show Steps _ _ _ (T108.setTop (mkF m 105 #[vI p1, vI p2, vI p3, vI p4, vI p5, vI 5, vI tv, vR b3, vI v111, .unset] [iI 5, iI tv])) _
      refine XS.isub X108.here hx rfl (hb hby at_105) rfl ?_
      show Steps _ _ _ (T108.setTop (mkF m 106 #[vI p1, vI p2, vI p3, vI p4, vI p5, vI 5, vI tv, vR b3, vI v111, .unset] [iI (tv - (5 : Int32))])) _
      refine XS.iconst X108.here hx rfl (hb hby at_106) ?_
      show Steps _ _ _ (T108.setTop (mkF m 107 #[vI p1, vI p2, vI p3, vI p4, vI p5, vI 5, vI tv, vR b3, vI v111, .unset] [iI 3, iI (tv - (5 : Int32))])) _
      refine XS.icmpNo X108.here hx rfl (hb hby at_107) rfl (tlt hh112).2.1 ?_
      show Steps _ _ _ (T108.setTop (mkF m 110 #[vI p1, vI p2, vI p3, vI p4, vI p5, vI 5, vI tv, vR b3, vI v111, .unset] [])) _
      refine XS.iconst X108.here hx rfl (hb hby at_110) ?_
      show Steps _ _ _ (T108.setTop (mkF m 111 #[vI p1, vI p2, vI p3, vI p4, vI p5, vI 5, vI tv, vR b3, vI v111, .unset] [iI 0])) _
      refine XS.istore X108.here hx rfl (hb hby at_111) rfl (l' := #[vI p1, vI p2, vI p3, vI p4, vI p5, vI 5, vI tv, vR b3, vI v111, vI 0]) rfl ?_
      show Steps _ _ _ (T108.setTop (mkF m 113 #[vI p1, vI p2, vI p3, vI p4, vI p5, vI 5, vI tv, vR b3, vI v111, vI 0] [])) _
      refine XS.goto X108.here hx rfl (pc0 := 113) (pc' := 172) rfl (hb hby at_113) (by decide) (by decide) ?_
      show Steps _ _ _ (T108.setTop (mkF m 172 #[vI p1, vI p2, vI p3, vI p4, vI p5, vI 5, vI tv, vR b3, vI v111, vI 0] [])) _
      refine XS.iload X108.here hx rfl (hb hby at_172) rfl ?_
      show Steps _ _ _ (T108.setTop (mkF m 174 #[vI p1, vI p2, vI p3, vI p4, vI p5, vI 5, vI tv, vR b3, vI v111, vI 0] [iI v111])) _
      refine XS.iload X108.here hx rfl (hb hby at_174) rfl ?_
      show Steps _ _ _ (T108.setTop (mkF m 176 #[vI p1, vI p2, vI p3, vI p4, vI p5, vI 5, vI tv, vR b3, vI v111, vI 0] [iI 0, iI v111])) _
      refine XS.icmpNo X108.here hx rfl (hb hby at_176) rfl (teq hh113).2 ?_
      show Steps _ _ _ (T108.setTop (mkF m 179 #[vI p1, vI p2, vI p3, vI p4, vI p5, vI 5, vI tv, vR b3, vI v111, vI 0] [])) _
      refine XS.iconst X108.here hx rfl (hb hby at_179) ?_
      show Steps _ _ _ (T108.setTop (mkF m 180 #[vI p1, vI p2, vI p3, vI p4, vI p5, vI 5, vI tv, vR b3, vI v111, vI 0] [iI 1])) _
      refine XS.goto X108.here hx rfl (pc0 := 180) (pc' := 184) rfl (hb hby at_180) (by decide) (by decide) ?_
      show Steps _ _ _ (T108.setTop (mkF m 184 #[vI p1, vI p2, vI p3, vI p4, vI p5, vI 5, vI tv, vR b3, vI v111, vI 0] [iI 1])) _
      exact retN X108 hx (t := .boolean) Bd.returns (by simp) (hb hby at_184) hr
    · show Q0 Z p1 p2 p3 p4 p5 s_B kB h0 n0 _ T108.heap _
      rw [e108]
      exact ⟨rfl, N28⟩
set_option maxRecDepth 65536 in
set_option maxHeartbeats 40000000 in
theorem comes_1 {Post : Tables → Env → Array Value → State → Outcome → State → Prop} (hpost : ∀ tb e args s v u, (limb_1_1.after args s (.returned v) u = true ∧ limb_1_2.after args s (.returned v) u = true ∧ True) → FrameEnd s (.returned v) u (Jvm.fieldLocs frame_1_writes args s ++ Jvm.arrayLocs frame_1_arrays args s ++ Jvm.staticLocs frame_1_statics s) 16 128 → Post tb e args s (.returned v) u) :
    ArmFor flags0 classFile x code maxLocals ret World_1 tables_1 room_1 Calls_1 rest_1 Pre_1 Post := by
  intro l hfl _ _ p e ha hc hk s m args below hf hA hF happ hP
  obtain ⟨hcalls, hrest, hpre⟩ := hP
  obtain ⟨-, -, -, hnamed, -, -, -, hat⟩ := (Spec.applies_iff hf).mp happ
  obtain ⟨hg, hn⟩ := and_e (Cond.before_iff.mp (show (Jvm.Cond.and given_1 narrow_1).before args s = true from hpre))
  obtain ⟨gc, gr0⟩ := and_e hg
  obtain ⟨ga0, gr1⟩ := and_e gr0
  obtain ⟨ga1, gr2⟩ := and_e gr1
  obtain ⟨ga2, gr3⟩ := and_e gr2
  obtain ⟨ga3, gr4⟩ := and_e gr3
  obtain ⟨w0, w1, w2, w3, w4, rfl⟩ : ∃ w0 w1 w2 w3 w4 : Value, args = #[w0, w1, w2, w3, w4] := by
    have hs : args.size = 5 := by simpa [Cond.value, given_1] using gc
    obtain ⟨L⟩ := args
    match L, hs with
    | [w0, w1, w2, w3, w4], _ => exact ⟨w0, w1, w2, w3, w4, rfl⟩
  have hw := fun d (hd : d ∈ tables_1) => atoms_spec (ws := Jvm.Cond.code x code maxLocals ret :: tables_1) hat d (List.mem_cons_of_mem _ hd)
  have hfit : Fit s := fun {y c} hc i hi => by
    obtain ⟨ha, rfl⟩ := Array.getElem?_eq_some_iff.mp hc
    have q := List.all_eq_true.mp ((Array.all_eq_true_iff_forall_mem.mp hF) _ (Array.getElem_mem ha)) i (List.mem_range.mpr hi)
    simpa [Array.getElem?_eq_getElem hi] using q
  obtain ⟨i0, ei0⟩ := is_v ga0
  obtain rfl : w0 = (.int i0) := Option.some.inj ei0
  obtain ⟨i1, ei1⟩ := is_v ga1
  obtain rfl : w1 = (.int i1) := Option.some.inj ei1
  obtain ⟨i2, ei2⟩ := is_v ga2
  obtain rfl : w2 = (.int i2) := Option.some.inj ei2
  obtain ⟨i3, ei3⟩ := is_v ga3
  obtain rfl : w3 = (.int i3) := Option.some.inj ei3
  obtain ⟨i4, ei4⟩ := is_v gr4
  obtain rfl : w4 = (.int i4) := Option.some.inj ei4
  obtain ⟨u0, t0⟩ := and_e hn
  obtain ⟨u1, t1⟩ := and_e t0
  obtain ⟨u2, t2⟩ := and_e t1
  obtain ⟨u3, t3⟩ := and_e t2
  obtain ⟨s_B, evB⟩ := arr_v u0
  obtain ⟨cl, Ar⟩ := Arr.start evB u0
  obtain ⟨hl1, hl2⟩ := own_len evB Ar u1
  have S_B : Sta s s.heap "com/example/tidemine/tidemine/TextFormat" "BYTE_ORDER_MARK" "[B" (.ref s_B) := Sta.start evB (Or.inr ⟨(hw _ (List.mem_of_getElem? (i := 8) rfl)), (hw _ (List.mem_of_getElem? (i := 11) rfl))⟩)
  have V_B : Arv s s.heap s_B cl.cls .byte (3 : Int32) [(.int (-17 : Int32)), (.int (-69 : Int32)), (.int (-65 : Int32))] (.int (0 : Int32)) := Arv.start hfit Ar hl1 hl2 (by decide) (by decide) ⟨own_elem evB (Term.int_eval 0) Ar.1 u2, own_elem evB (Term.int_eval 1) Ar.1 u3, own_elem evB (Term.int_eval 2) Ar.1 t3, trivial⟩
  obtain ⟨n, o, h1, h2, h3, _, L, rfl, Qv, hq⟩ := rm0 l s _ hw tables_1 i0 i1 i2 i3 i4 s_B cl.cls s.heap s.heap.size (Nat.le_refl _) S_B V_B p e ha hc hk s m _ below hf ((Spec.applies_iff_loose hf).mp happ).1 ⟨rfl, State.Warmed39.refl s, rfl⟩ trivial
  obtain ⟨rfl, N⟩ := Qv
  refine ⟨n, _, h1, h2, h3, hpost _ _ _ _ _ _ ⟨Cond.after_iff.mpr rfl, Cond.after_iff.mpr (eq_i res_at (Term.int_eval (1)) rfl), trivial⟩ ⟨hq.1, hq.2.1, (hq.2.2.sift fun y hy => Or.inr (N y hy)).mono (by decide) (by decide)⟩⟩
theorem main_1_1 : Claimed_1_1 := comes_1 fun _ _ _ _ _ _ h hF => ⟨h.1, hF⟩
theorem main_1_2 : Claimed_1_2 := comes_1 fun _ _ _ _ _ _ h hF => ⟨h.2.1, hF⟩
end Jvm.Pilot.@@N@@
namespace Jvm.Pilot.@@N@@
open Jvm Jvm.ClassFile Sem Op Lib Jvm.Free Jvm.Stand Jvm.Pilot.@@N@@.Jvm.D
/-! MADE BY PROGRAM (witnessworld.py) out of the Statement's table words and the real class files: 9 classes; the members and pool entries that the words name. The judged class is class 1, her method 1. -/
namespace start1
open Jvm.ClassFile
def u (s : String) : CpInfo := .utf8 (stringToUtf16 s)
/-- a pool by its gaps: so many unusable entries, then the entry; so many at the end -/
def gap : Nat → List CpInfo → List CpInfo
  | 0, r => r
  | n + 1, r => .unusable :: gap n r
def poolList (es : List (Nat × CpInfo)) (last : Nat) : List CpInfo := es.foldr (fun e r => gap e.1 (e.2 :: r)) (gap last [])
def pool (es : List (Nat × CpInfo)) (last : Nat) : Array CpInfo := ⟨poolList es last⟩
def fileOf (pool : Array CpInfo) (this : Nat) (attrs : Array Attribute := #[]) (ms : Array MethodInfo := #[]) (fl : Nat := 33) (sup : Nat := 0) (ifs : Array Nat := #[]) (fds : Array FieldInfo := #[]) : ClassFile where
  minorVersion := 0
  majorVersion := 65
  constantPool := pool
  accessFlags := fl
  thisClass := this
  superClass := sup
  interfaces := ifs
  fields := fds
  methods := ms
  attributes := attrs
def plain (name : String) (sup : Option ClassId) : Class where
  name := name
  kind := .ordinary
  loader := none
  accessFlags := 33
  super := sup
  interfaces := #[]
  cf := none
  fields := #[]
  methods := #[]
  instanceTypes := #[]
  staticTypes := #[]
  resolved := #[]
  callSites := []
  init := .initialized
  statics := none
  mirror := none

def pool0 : Array CpInfo := pool [(5, u "<init>"), (0, u "()V"), (1, .class_ 10), (1, u "java/lang/Object")] 113

def k0m0 : Method := { name := "<init>", desc := "()V", sig := { parameters := [], returnType := none }, accessFlags := 1, code := none }
/-- java/lang/Object -/
def k0 : Class := { plain "java/lang/Object" none with
  accessFlags := 33
  interfaces := #[]
  cf := some (fileOf pool0 8 #[] #[{ accessFlags := 1, nameIndex := 5, descriptorIndex := 6, attributes := #[] }] 33 0 #[] #[])
  fields := #[]
  methods := #[k0m0]
  instanceTypes := #[]
  staticTypes := #[]
  resolved := Array.replicate 124 none
  statics := none }

def pool1 : Array CpInfo := pool [(2, .class_ 4), (1, u "java/lang/Object"), (0, u "<init>"), (0, u "()V"), (0, .integer 2147483647), (0, .methodref 9 10), (0, .class_ 11), (0, .nameAndType 12 13), (0, u "com/example/tidemine/tidemine/TextFormatStartsWithByteOrderMarkPinLaw"), (0, u "pick"), (0, u "(IIII)B"), (0, .methodref 15 16), (0, .class_ 17), (0, .nameAndType 18 19), (0, u "com/example/tidemine/tidemine/TextFormat"), (0, u "startsWithByteOrderMark"), (0, u "([BII)Z"), (2, u "law"), (0, u "(IIIII)Z")] 5

def k1m0 : Method := { name := "<init>", desc := "()V", sig := { parameters := [], returnType := none }, accessFlags := 1, code := none }
def k1c1 : Code := { maxStack := 6, maxLocals := 10, code := code, exceptionTable := #[], attributes := #[] }
def k1m1 : Method := { name := "law", desc := "(IIIII)Z", sig := { parameters := [.int, .int, .int, .int, .int], returnType := some .boolean }, accessFlags := 9, code := some k1c1 }
def k1c2 : Code := { maxStack := 4, maxLocals := 6, code := method_3_code, exceptionTable := #[], attributes := #[] }
def k1m2 : Method := { name := "pick", desc := "(IIII)B", sig := { parameters := [.int, .int, .int, .int], returnType := some .byte }, accessFlags := 10, code := some k1c2 }
/-- com/example/tidemine/tidemine/TextFormatStartsWithByteOrderMarkPinLaw -/
def k1 : Class := { plain "com/example/tidemine/tidemine/TextFormatStartsWithByteOrderMarkPinLaw" (some 0) with
  accessFlags := 49
  interfaces := #[]
  cf := some (fileOf pool1 9 #[] #[{ accessFlags := 1, nameIndex := 5, descriptorIndex := 6, attributes := #[] }, { accessFlags := 9, nameIndex := 22, descriptorIndex := 23, attributes := #[] }, { accessFlags := 10, nameIndex := 12, descriptorIndex := 13, attributes := #[] }] 49 2 #[] #[])
  fields := #[]
  methods := #[k1m0, k1m1, k1m2]
  instanceTypes := #[]
  staticTypes := #[]
  resolved := Array.replicate 29 none
  statics := none }

def pool2 : Array CpInfo := pool [(2, .class_ 4), (1, u "java/lang/Object"), (0, u "<init>"), (0, u "()V"), (1, .class_ 10), (1, u "com/example/tidemine/tidemine/TextFormat"), (17, .class_ 29), (0, u "com/example/tidemine/tidemine/TextFormat$Tokens"), (27, u "([BII)Z"), (2, u "startsWithByteOrderMark"), (0, .fieldref 8 62), (0, .nameAndType 63 64), (0, u "BYTE_ORDER_MARK"), (0, u "[B"), (16, u "EXACT_POWERS_OF_TEN"), (0, u "[D"), (9, u "UNIT_DECIMAL"), (0, u "Ljava/lang/String;"), (3, u "EXACT_MANTISSA"), (0, u "J"), (0, u "MAX_SIGNIFICANT_DIGITS"), (0, u "I")] 19

def k2m0 : Method := { name := "<init>", desc := "()V", sig := { parameters := [], returnType := none }, accessFlags := 2, code := none }
def k2c1 : Code := { maxStack := 3, maxLocals := 3, code := prog_40_method_8_code, exceptionTable := #[], attributes := #[] }
def k2m1 : Method := { name := "startsWithByteOrderMark", desc := "([BII)Z", sig := { parameters := [(.array .byte), .int, .int], returnType := some .boolean }, accessFlags := 8, code := some k2c1 }
/-- com/example/tidemine/tidemine/TextFormat -/
def k2 : Class := { plain "com/example/tidemine/tidemine/TextFormat" (some 0) with
  accessFlags := 48
  interfaces := #[]
  cf := some (fileOf pool2 8 #[.nestMembers #[28]] #[{ accessFlags := 2, nameIndex := 5, descriptorIndex := 6, attributes := #[] }, { accessFlags := 8, nameIndex := 60, descriptorIndex := 57, attributes := #[] }] 48 2 #[] #[{ accessFlags := 24, nameIndex := 92, descriptorIndex := 93, attributes := #[] }, { accessFlags := 26, nameIndex := 63, descriptorIndex := 64, attributes := #[] }, { accessFlags := 26, nameIndex := 97, descriptorIndex := 98, attributes := #[] }, { accessFlags := 26, nameIndex := 99, descriptorIndex := 100, attributes := #[] }, { accessFlags := 26, nameIndex := 81, descriptorIndex := 82, attributes := #[] }])
  fields := #[{ name := "UNIT_DECIMAL", type := (.object "java/lang/String"), accessFlags := 24, slot := 0, constantValue := 0 }, { name := "BYTE_ORDER_MARK", type := (.array .byte), accessFlags := 26, slot := 1, constantValue := 0 }, { name := "EXACT_MANTISSA", type := .long, accessFlags := 26, slot := 2, constantValue := 0 }, { name := "MAX_SIGNIFICANT_DIGITS", type := .int, accessFlags := 26, slot := 3, constantValue := 0 }, { name := "EXACT_POWERS_OF_TEN", type := (.array .double), accessFlags := 26, slot := 4, constantValue := 0 }]
  methods := #[k2m0, k2m1]
  instanceTypes := #[]
  staticTypes := #[(.object "java/lang/String"), (.array .byte), .long, .int, (.array .double)]
  resolved := Array.replicate 120 none
  statics := some 0 }

def pool3 : Array CpInfo := pool [(1, u "java/lang/Cloneable"), (0, .class_ 1), (0, u "java/lang/Object"), (0, .class_ 3)] 3

/-- java/lang/Cloneable -/
def k3 : Class := { plain "java/lang/Cloneable" (some 0) with
  accessFlags := 1537
  interfaces := #[]
  cf := some (fileOf pool3 2 #[] #[] 1537 4 #[] #[])
  fields := #[]
  methods := #[]
  instanceTypes := #[]
  staticTypes := #[]
  resolved := Array.replicate 8 none
  statics := none }

def pool4 : Array CpInfo := pool [(1, u "java/io/Serializable"), (0, .class_ 1), (0, u "java/lang/Object"), (0, .class_ 3)] 3

/-- java/io/Serializable -/
def k4 : Class := { plain "java/io/Serializable" (some 0) with
  accessFlags := 1537
  interfaces := #[]
  cf := some (fileOf pool4 2 #[] #[] 1537 4 #[] #[])
  fields := #[]
  methods := #[]
  instanceTypes := #[]
  staticTypes := #[]
  resolved := Array.replicate 8 none
  statics := none }

/-- the primitive byte -/
def k5 : Class := { plain "byte" none with kind := .primitive 'B', accessFlags := 0x411 }
/-- [B -/
def k6 : Class := { plain "[B" (some 0) with kind := .array 5 .byte, interfaces := #[3, 4], accessFlags := 1041 }

/-- the primitive int -/
def k7 : Class := { plain "int" none with kind := .primitive 'I', accessFlags := 0x411 }
/-- [I -/
def k8 : Class := { plain "[I" (some 0) with kind := .array 7 .int, interfaces := #[3, 4], accessFlags := 1041 }

def heap : Heap := #[{ cls := 2, slots := #[.null, .ref 1, .long 0, .int 0, .null], vm := .statics 2 },
  { cls := 6, slots := #[.int (-17), .int (-69), .int (-65)], vm := .none }]
def classes : Array Class := #[k0, k1, k2, k3, k4, k5, k6, k7, k8]
def interned : List (Array UInt16 × Addr) := []
def slotsUsed : Nat := 8
def theMethod : MethodId := ⟨1, 1⟩
def args0 : Array Value := #[.int 5, .int 3, .int 3, .int 3, .int 3]
def aboutOver (below : List Frame) : State where
  vm := { classes := classes, interned := interned.toArray }
  heap := heap
  slotsUsed := slotsUsed
  threads := #[{ frames := .invoking theMethod args0 :: below }]
def below0 : List Frame := [.native { method := ⟨0, 0⟩, args := #[] }]
def about1 : State := aboutOver below0
def p0 : Program := .bare "" "" ""
def e0 : Env := launch0.env 0 0 0
theorem w_frames : about1.frames = Frame.invoking theMethod args0 :: below0 := rfl
set_option maxRecDepth 65536 in
theorem w_args : argsFit about1.vm theMethod args0 = true := by decide +kernel
set_option maxRecDepth 65536 in
theorem w_heap : heapFits about1 = true := by decide +kernel
set_option maxRecDepth 65536 in
theorem w_runnable : about1.curStatus? = some .runnable := by decide +kernel
set_option maxRecDepth 65536 in
theorem w_alone : about1.alone = true := by decide +kernel
set_option maxRecDepth 65536 in
theorem w_named : about1.methodNamed? x = some theMethod := by decide +kernel
set_option maxRecDepth 65536 in
theorem w_hears : about1.hears theMethod below0 = true := by decide +kernel
set_option maxRecDepth 65536 in
theorem w_ripe : about1.ripe theMethod args0 below0 = true := by decide +kernel
theorem w_running : about1.status = .running := rfl
set_option maxRecDepth 65536 in
theorem w_room : about1.hasRoom e0.platform room_1 = true :=
  launch0.hasRoom_least _ room_1 (by decide +kernel) (by decide +kernel) (by decide +kernel) (by decide +kernel) (by decide +kernel) (by decide +kernel)
theorem allAtoms_all (ts : List Jvm.Cond) (a : Array Jvm.Value) (st : Jvm.State) : (allAtoms ts).before a st = ts.all (fun c => c.before a st) := by
  induction ts with
  | nil => rfl
  | cons c t ih =>
    show (Jvm.Cond.and c (allAtoms t)).before a st = _
    rw [Jvm.Cond.before_and, ih, List.all_cons]
def words1 : List Jvm.Cond := Jvm.Cond.code x code maxLocals ret :: tables_1
/-- a 'code' word, met by the world's own term for the bytes: nothing is compared byte by byte -/
theorem code_word {y : MethodName} {bytes : ByteArray} {mx : Nat} {rt : Option FieldType} {a : Array Value} {s : State} {m : MethodId} {meth : Method} {c : Code} (h1 : s.methodNamed? y = some m) (h2 : s.vm.method? m = some meth) (h3 : meth.code = some c) (h4 : c.code = bytes)
    (h5 : (c.maxLocals == mx && c.exceptionTable.isEmpty && decide (c.maxStack ≤ mostOperands) && decide (meth.sig.returnType = rt) && !meth.locks && decide (parseMethodDescriptor y.desc = some meth.sig)) = true) : (Jvm.Cond.code y bytes mx rt).before a s = true := by
  simp only [Bool.and_eq_true, beq_iff_eq, Bool.not_eq_true', decide_eq_true_eq] at h5
  obtain ⟨⟨⟨⟨⟨g1, g2⟩, g3⟩, g4⟩, g5⟩, g6⟩ := h5
  simp [Cond.before, Cond.holds, Cond.value, h1, h2, h3, h4, g1, g2, g3, g4, g5, g6]
def isCode : Jvm.Cond → Bool
  | .code _ _ _ _ => true
  | _ => false
theorem all_split {L : List Jvm.Cond} {P : Jvm.Cond → Bool} (h1 : L.all (fun c => isCode c || P c) = true) (h2 : ∀ c ∈ L.filter isCode, P c = true) : L.all P = true := by
  refine List.all_eq_true.mpr fun c hc => ?_
  have h := List.all_eq_true.mp h1 c hc
  rcases Bool.eq_false_or_eq_true (isCode c) with hi | hi
  · exact h2 c (List.mem_filter.mpr ⟨hc, hi⟩)
  · simpa [hi] using h
set_option maxRecDepth 65536 in
theorem w_c0 : (Jvm.Cond.code x code maxLocals ret).before args0 about1 = true := code_word (m := ⟨1, 1⟩) (meth := k1m1) (c := k1c1) (by decide +kernel) rfl rfl rfl (by decide +kernel)
set_option maxRecDepth 65536 in
theorem w_c1 : (Jvm.Cond.code ({ cls := "com/example/tidemine/tidemine/TextFormatStartsWithByteOrderMarkPinLaw", name := "pick", desc := "(IIII)B" } : Jvm.MethodName) method_3_code (6 : Nat) (Option.some Jvm.ClassFile.FieldType.byte)).before args0 about1 = true := code_word (m := ⟨1, 2⟩) (meth := k1m2) (c := k1c2) (by decide +kernel) rfl rfl rfl (by decide +kernel)
set_option maxRecDepth 65536 in
theorem w_c2 : (Jvm.Cond.code ({ cls := "com/example/tidemine/tidemine/TextFormat", name := "startsWithByteOrderMark", desc := "([BII)Z" } : Jvm.MethodName) prog_40_method_8_code (3 : Nat) (Option.some Jvm.ClassFile.FieldType.boolean)).before args0 about1 = true := code_word (m := ⟨2, 1⟩) (meth := k2m1) (c := k2c1) (by decide +kernel) rfl rfl rfl (by decide +kernel)
def codes1 : List Jvm.Cond := [Jvm.Cond.code x code maxLocals ret, Jvm.Cond.code ({ cls := "com/example/tidemine/tidemine/TextFormatStartsWithByteOrderMarkPinLaw", name := "pick", desc := "(IIII)B" } : Jvm.MethodName) method_3_code (6 : Nat) (Option.some Jvm.ClassFile.FieldType.byte), Jvm.Cond.code ({ cls := "com/example/tidemine/tidemine/TextFormat", name := "startsWithByteOrderMark", desc := "([BII)Z" } : Jvm.MethodName) prog_40_method_8_code (3 : Nat) (Option.some Jvm.ClassFile.FieldType.boolean)]
set_option maxRecDepth 65536 in
theorem codes_eq : words1.filter isCode = codes1 := rfl
theorem w_codes : ∀ c ∈ words1.filter isCode, c.before args0 about1 = true := by
  rw [codes_eq]
  intro c hc
  simp only [codes1, List.mem_cons, List.not_mem_nil, or_false] at hc
  rcases hc with rfl | rfl | rfl
  · exact w_c0
  · exact w_c1
  · exact w_c2
set_option maxRecDepth 65536 in
theorem w_t1 : words1.all (fun c => isCode c || c.before args0 about1) = true := by decide +kernel
theorem w_tables : (allAtoms (Jvm.Cond.code x code maxLocals ret :: tables_1)).before args0 about1 = true := by
  rw [allAtoms_all]
  show words1.all (fun c => c.before args0 about1) = true
  refine all_split ?_ w_codes
  rw [w_t1]
set_option maxRecDepth 65536 in
theorem w_case : (Jvm.Cond.and given_1 narrow_1).before args0 about1 = true := by decide +kernel
theorem w_applies : (headSpec (Jvm.Cond.code x code maxLocals ret :: tables_1) room_1).applies x e0.platform about1 = true :=
  (Spec.applies_iff w_frames).mpr ⟨w_running, w_runnable, w_alone, w_named, w_hears, w_ripe, w_room, w_tables⟩
theorem atStart : AtStart classFile x code maxLocals ret World_1 tables_1 room_1 Calls_1 rest_1 Pre_1 launch0 p0 e0 about1 theMethod args0 below0 :=
  ⟨lists_1, trivial, launch0.admits_env _ _ _, launch0.least_env, fairChoices_fair.cas, fairChoices_fair.clock, w_frames, w_args, w_heap, w_applies, trivial, trivial, w_case⟩
end start1
theorem witness_1 : WitnessClaimed_1 := ⟨start1.p0, start1.e0, start1.about1, start1.theMethod, start1.args0, start1.below0, start1.atStart⟩
end Jvm.Pilot.@@N@@
