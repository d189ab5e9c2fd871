import JvmDerived
import JvmDerived.Pilot.@@N@@Statement
import JvmDerived.Pilot.@@N@@Code
set_option linter.unusedVariables false
set_option linter.unusedSimpArgs false
namespace Jvm.RoadKit
open Sem ClassFile Op Lib Jvm.Stand Jvm.Free Jvm.LawKit
section New
variable {p : Program} {l : Launch} {e : Env} {R : Room} {s : State} {m : MethodId} {args : Array Value} {below : List Frame} {meth : Method} {c : Code} {T : State} {locs : List Loc} {cells slots : Nat}
theorem retI (X : Stand p l e R s m args below meth c T locs cells slots) (hx : p.tables.exec = Jvm.exec) {pc : Nat} {Ls : Array Slot} {z : Int32} {rest : List Value} (hret : meth.sig.returnType = some .int) (hd : decode c.code pc = .ok (.ireturn, 1)) {fs : List Frame}
    (hl : ∀ (f : JFrame) (acts : List Action), f.method = m → f.locked = none → f.entered = [] → (doReturn e (T.setTop f) acts (some (.int z))).1 = T.setFrames fs) : Steps p.tables e below (T.setTop (mkF m pc Ls (.int z :: rest))) (T.setFrames fs) := by
  have hm' : T.vm.method? m = some meth := X.method'
  have hn : narrow .int (.int z) = .int z := rfl
  show Steps p.tables e below (T.setTop { method := m, pc := pc, locals := Ls, stack := _ :: rest, locked := none }) _
  jvm_step X.here [X.here.top, hx, hd, hm', hret, hn]
  first | (intro acts; rw [hl _ acts rfl rfl rfl]) | rw [hl _ _ rfl rfl rfl]
  exact Steps.refl _
abbrev vI (x : Int32) : Slot := .val (.int x)
abbrev vJ (x : Int64) : Slot := .val (.long x)
abbrev vR (x : Addr) : Slot := .val (.ref x)
abbrev iI (x : Int32) : Value := .int x
abbrev iJ (x : Int64) : Value := .long x
abbrev iR (x : Addr) : Value := .ref x
/-- from one frame to another over the same heap -/
def own_Mid (X : Stand p l e R s m args below meth c T locs cells slots) (h : Heap) (F F' : JFrame) : Prop :=
  ∃ T', Stand p l e R s m args below meth c T' locs cells slots ∧ T'.heap = h ∧ ∀ t, Steps p.tables e below (T'.setTop F') t → Steps p.tables e below (T.setTop F) t
/-- a private method is its own choice: its class is made by 'new' -/
theorem own_selPriv {s : State} {args : Array Value} {y : MethodName} {n : Nat} (hi : (Cond.instantiable y.cls n).before args s = true) (hpriv : s.PrivateAt y) (hinst : (Cond.instanceMethod y).before args s = true) (hy : y.cls ≠ "java/lang/invoke/MethodHandle" ∧ y.cls ≠ "java/lang/invoke/VarHandle") : (Cond.selects y.cls y y).before args s = true := by
  obtain ⟨c, k, h1, h2, -, h4, -, -⟩ := Cond.instantiable_spec hi
  exact Stand.selects_self_of_private h1 h2 (Bool.or_eq_false_iff.mp h4).1 hpriv hinst hy
end New
end Jvm.RoadKit
namespace Jvm.Pilot.@@N@@
open Jvm Jvm.ClassFile Sem Op Lib Jvm.Free Jvm.Stand Jvm.LawKit Jvm.RoadKit Bundle Jvm.Pilot.@@N@@.Jvm.D
theorem pd_0 : parseMethodDescriptor "(B)Z" = some ⟨[.byte], some .boolean⟩ := by decide +kernel
theorem pd_1 : parseMethodDescriptor "(JI)B" = some ⟨[.long, .int], some .byte⟩ := by decide +kernel
theorem pd_2 : parseMethodDescriptor "(II)I" = some ⟨[.int, .int], some .int⟩ := by decide +kernel
theorem pd_3 : parseMethodDescriptor "()V" = some ⟨[], none⟩ := by decide +kernel
theorem pd_4 : parseMethodDescriptor "([BII)V" = some ⟨[(.array .byte), .int, .int], none⟩ := by decide +kernel
theorem pd_5 : parseMethodDescriptor "(I[B)Z" = some ⟨[.int, (.array .byte)], some .boolean⟩ := by decide +kernel
theorem pd_6 : parseMethodDescriptor "([BIJII)B" = some ⟨[(.array .byte), .int, .long, .int, .int], some .byte⟩ := by decide +kernel

theorem own_small2 (v : Int32) (h0 : 0 ≤ v.toInt) (h1 : v.toInt < 2) : v = 0 ∨ v = 1 := by
  have h : v.toInt = 0 ∨ v.toInt = 1 := by omega
  rcases h with h | h
  · exact Or.inl (Int32.toInt_inj.mp (h.trans (by decide)))
  · exact Or.inr ((Int32.toInt_inj.mp (h.trans (by decide))))

theorem own_small4 (v : Int32) (h0 : 0 ≤ v.toInt) (h1 : v.toInt < 4) : v = 0 ∨ v = 1 ∨ v = 2 ∨ v = 3 := by
  have h : v.toInt = 0 ∨ v.toInt = 1 ∨ v.toInt = 2 ∨ v.toInt = 3 := by omega
  rcases h with h | h | h | h
  · exact Or.inl (Int32.toInt_inj.mp (h.trans (by decide)))
  · exact Or.inr (Or.inl (Int32.toInt_inj.mp (h.trans (by decide))))
  · exact Or.inr (Or.inr (Or.inl (Int32.toInt_inj.mp (h.trans (by decide)))))
  · exact Or.inr (Or.inr (Or.inr ((Int32.toInt_inj.mp (h.trans (by decide))))))

theorem own_small7 (v : Int32) (h0 : 0 ≤ v.toInt) (h1 : v.toInt < 7) : v = 0 ∨ v = 1 ∨ v = 2 ∨ v = 3 ∨ v = 4 ∨ v = 5 ∨ v = 6 := by
  have h : v.toInt = 0 ∨ v.toInt = 1 ∨ v.toInt = 2 ∨ v.toInt = 3 ∨ v.toInt = 4 ∨ v.toInt = 5 ∨ v.toInt = 6 := by omega
  rcases h with h | h | h | h | h | h | h
  · exact Or.inl (Int32.toInt_inj.mp (h.trans (by decide)))
  · exact Or.inr (Or.inl (Int32.toInt_inj.mp (h.trans (by decide))))
  · exact Or.inr (Or.inr (Or.inl (Int32.toInt_inj.mp (h.trans (by decide)))))
  · exact Or.inr (Or.inr (Or.inr (Or.inl (Int32.toInt_inj.mp (h.trans (by decide))))))
  · exact Or.inr (Or.inr (Or.inr (Or.inr (Or.inl (Int32.toInt_inj.mp (h.trans (by decide)))))))
  · exact Or.inr (Or.inr (Or.inr (Or.inr (Or.inr (Or.inl (Int32.toInt_inj.mp (h.trans (by decide))))))))
  · exact Or.inr (Or.inr (Or.inr (Or.inr (Or.inr (Or.inr ((Int32.toInt_inj.mp (h.trans (by decide)))))))))

def own_ns (q1 : Int64) (p2 : Int32) : Int32 := (nar .byte (if ((q1.toUInt64 >>> (((8 : Int32) * p2) &&& 0x3f).toInt64.toUInt64).toInt64).toInt32.toInt8.toInt32 = (32 : Int32) then (((q1.toUInt64 >>> (((8 : Int32) * p2) &&& 0x3f).toInt64.toUInt64).toInt64).toInt32.toInt8.toInt32 + (1 : Int32)).toInt8.toInt32 else (if ((q1.toUInt64 >>> (((8 : Int32) * p2) &&& 0x3f).toInt64.toUInt64).toInt64).toInt32.toInt8.toInt32 = (9 : Int32) then (((q1.toUInt64 >>> (((8 : Int32) * p2) &&& 0x3f).toInt64.toUInt64).toInt64).toInt32.toInt8.toInt32 + (1 : Int32)).toInt8.toInt32 else ((q1.toUInt64 >>> (((8 : Int32) * p2) &&& 0x3f).toInt64.toUInt64).toInt64).toInt32.toInt8.toInt32)))
theorem d1_0 : decode method_2_code 0 = .ok (.lload_n 0, 1) := by decide +kernel
theorem d1_1 : decode method_2_code 1 = .ok (.bipush 8, 2) := by decide +kernel
theorem d1_3 : decode method_2_code 3 = .ok (.iload_n 2, 1) := by decide +kernel
theorem d1_4 : decode method_2_code 4 = .ok (.imul, 1) := by decide +kernel
theorem d1_5 : decode method_2_code 5 = .ok (.lushr, 1) := by decide +kernel
theorem d1_6 : decode method_2_code 6 = .ok (.l2i, 1) := by decide +kernel
theorem d1_7 : decode method_2_code 7 = .ok (.i2b, 1) := by decide +kernel
theorem d1_8 : decode method_2_code 8 = .ok (.istore_n 3, 1) := by decide +kernel
theorem d1_9 : decode method_2_code 9 = .ok (.iload_n 3, 1) := by decide +kernel
theorem d1_10 : decode method_2_code 10 = .ok (.bipush 32, 2) := by decide +kernel
theorem d1_12 : decode method_2_code 12 = .ok (.if_icmp .eq 9, 3) := by decide +kernel
theorem d1_15 : decode method_2_code 15 = .ok (.iload_n 3, 1) := by decide +kernel
theorem d1_16 : decode method_2_code 16 = .ok (.bipush 9, 2) := by decide +kernel
theorem d1_18 : decode method_2_code 18 = .ok (.if_icmp .ne 10, 3) := by decide +kernel
theorem d1_21 : decode method_2_code 21 = .ok (.iload_n 3, 1) := by decide +kernel
theorem d1_22 : decode method_2_code 22 = .ok (.iconst 1, 1) := by decide +kernel
theorem d1_23 : decode method_2_code 23 = .ok (.iadd, 1) := by decide +kernel
theorem d1_24 : decode method_2_code 24 = .ok (.i2b, 1) := by decide +kernel
theorem d1_25 : decode method_2_code 25 = .ok (.goto 4, 3) := by decide +kernel
theorem d1_28 : decode method_2_code 28 = .ok (.iload_n 3, 1) := by decide +kernel
theorem d1_29 : decode method_2_code 29 = .ok (.ireturn, 1) := by decide +kernel
theorem pn_0 : plainName "com/example/tidemine/tidemine/TokensIsPinLaw" = true := by first | (simp [plainName, overriddenIn]; done) | decide +kernel
theorem ef_1 (m : MethodId) (x0 : Int64) (x1 : Int32) : entryFrame m #[(.long x0), (.int x1)] 4 = mkF m 0 #[.val (.long x0), .second, .val (.int x1), .unset] [] := by first | (simp [entryFrame, mkF, argsToLocals, Value.category]; done) | rfl
def Q1 (Z : State) (q1 : Int64) (p2 : Int32) (h0 : Heap) (v : Option Value) (h : Heap) (L : List Loc) : Prop := v = some (.int (own_ns q1 p2)) ∧ L = [] ∧ h = h0
set_option maxRecDepth 65536 in
set_option maxHeartbeats 40000000 in
theorem rm1 (l : Launch) (Z : State) (a0 : Array Value) (hw : ∀ d ∈ tables_1, d.before a0 Z = true) (ws : List Jvm.Cond) (q1 : Int64) (p2 : Int32) (h0 : Heap) :
    MetFree l (⟨"com/example/tidemine/tidemine/TokensIsPinLaw", "nonSep", "(JI)B"⟩ : MethodName) (head1 (Jvm.Cond.code (⟨"com/example/tidemine/tidemine/TokensIsPinLaw", "nonSep", "(JI)B"⟩ : MethodName) method_2_code 4 (some .byte) :: ws) ({ frames := 0, cells := 0, slots := 0, locals := 0 } : Room)) (fun a U => a = #[(.long q1), (.int p2)] ∧ Z.Warmed39 U.vm ∧ U.heap = h0) (fun _ _ _ _ _ => True) (fun _ U o U' => ∃ v L, o = .returned v ∧ Q1 Z q1 p2 h0 v U'.heap L ∧ FrameEnd U o U' L ({ frames := 0, cells := 0, slots := 0, locals := 0 } : Room).cells ({ frames := 0, cells := 0, slots := 0, locals := 0 } : Room).slots) := by
  refine MetFree.of_bodySF (plainFor_of_name pn_0) hisR ?_
  intro p e s m args below meth c s₁ Bd hml0 hP hK
  obtain ⟨rfl, hZ, hh⟩ := hP
  have hx := Bd.exec
  have hby := Bd.bytes
  have hml : c.maxLocals = 4 := hml0
  have hown : s.vm.findClass "com/example/tidemine/tidemine/TokensIsPinLaw" = some m.cls := findClass_of_methodNamed Bd.named
  have hnm := (name_of_methodNamed Bd.named Bd.method).1
  have X0 : Stand p l e ({ frames := 0, cells := 0, slots := 0, locals := 0 } : Room) s m #[(.long q1), (.int p2)] below meth c s₁ [] 0 0 := Stand.of_body Bd
  have e0 : s₁.heap = h0 := by rw [← hh, Bd.state]; rfl
  have pre0 : ∀ t, Steps p.tables e below (s₁.setTop (mkF m 0 #[.val (.long q1), .second, .val (.int p2), .unset] [])) t → Steps p.tables e below (s₁.setTop (entryFrame m #[(.long q1), (.int p2)] 4)) t := fun t k => castTop (ef_1 m q1 p2) k
  obtain ⟨v1, hv1⟩ : ∃ z : Int32, z = ((q1.toUInt64 >>> (((8 : Int32) * p2) &&& 0x3f).toInt64.toUInt64).toInt64).toInt32.toInt8.toInt32 := ⟨_, rfl⟩
  obtain ⟨v2, hv2⟩ : ∃ z : Int32, z = (if v1 = (32 : Int32) then (v1 + (1 : Int32)).toInt8.toInt32 else (if v1 = (9 : Int32) then (v1 + (1 : Int32)).toInt8.toInt32 else v1)) := ⟨_, rfl⟩
  obtain ⟨T3, X3, e3, st3⟩ : own_Mid X0 h0 (mkF m 12 #[vJ q1, .second, vI p2, vI v1] [iI 32, iI v1]) (mkF m 29 #[vJ q1, .second, vI p2, vI v1] [iI v2]) := by
    by_cases hc4 : v1 = (32 : Int32)
    · refine ⟨s₁, X0, e0, fun t kt => ?_⟩
      subst hv2
      simp only [if_pos hc4] at kt
      show Steps _ _ _ (s₁.setTop (mkF m 12 #[vJ q1, .second, vI p2, vI v1] [iI 32, iI v1])) _
      refine XS.icmpYes X0.here hx rfl (pc0 := 12) (pc' := 21) rfl (hb hby d1_12) rfl (teq hc4).1 (by decide) (by decide) ?_
      show Steps _ _ _ (s₁.setTop (mkF m 21 #[vJ q1, .second, vI p2, vI v1] [])) _
      refine XS.iloadN X0.here hx rfl (hb hby d1_21) rfl ?_
      show Steps _ _ _ (s₁.setTop (mkF m 22 #[vJ q1, .second, vI p2, vI v1] [iI v1])) _
      refine XS.iconst X0.here hx rfl (hb hby d1_22) ?_
      show Steps _ _ _ (s₁.setTop (mkF m 23 #[vJ q1, .second, vI p2, vI v1] [iI 1, iI v1])) _
      refine XS.iadd X0.here hx rfl (hb hby d1_23) rfl ?_
      show Steps _ _ _ (s₁.setTop (mkF m 24 #[vJ q1, .second, vI p2, vI v1] [iI (v1 + (1 : Int32))])) _
      refine XS.i2b X0.here hx rfl (hb hby d1_24) rfl ?_
      show Steps _ _ _ (s₁.setTop (mkF m 25 #[vJ q1, .second, vI p2, vI v1] [iI (v1 + (1 : Int32)).toInt8.toInt32])) _
      refine XS.goto X0.here hx rfl (pc0 := 25) (pc' := 29) rfl (hb hby d1_25) (by decide) (by decide) ?_
      exact kt
    · have pre6 : ∀ t, Steps p.tables e below (s₁.setTop (mkF m 18 #[vJ q1, .second, vI p2, vI v1] [iI 9, iI v1])) t → Steps p.tables e below (s₁.setTop (mkF m 12 #[vJ q1, .second, vI p2, vI v1] [iI 32, iI v1])) t := by
        intro t kt
        show Steps _ _ _ (s₁.setTop (mkF m 12 #[vJ q1, .second, vI p2, vI v1] [iI 32, iI v1])) _
        refine XS.icmpNo X0.here hx rfl (hb hby d1_12) rfl (feq hc4).1 ?_
        show Steps _ _ _ (s₁.setTop (mkF m 15 #[vJ q1, .second, vI p2, vI v1] [])) _
        refine XS.iloadN X0.here hx rfl (hb hby d1_15) rfl ?_
        show Steps _ _ _ (s₁.setTop (mkF m 16 #[vJ q1, .second, vI p2, vI v1] [iI v1])) _
        refine XS.bipush X0.here hx rfl (hb hby d1_16) ?_
        exact kt
      by_cases hc5 : v1 = (9 : Int32)
      · refine ⟨s₁, X0, e0, fun t kt => ?_⟩
        subst hv2
        simp only [if_neg hc4, if_pos hc5] at kt
        refine pre6 t ?_
        show Steps _ _ _ (s₁.setTop (mkF m 18 #[vJ q1, .second, vI p2, vI v1] [iI 9, iI v1])) _
        refine XS.icmpNo X0.here hx rfl (hb hby d1_18) rfl (teq hc5).2 ?_
        show Steps _ _ _ (s₁.setTop (mkF m 21 #[vJ q1, .second, vI p2, vI v1] [])) _
        refine XS.iloadN X0.here hx rfl (hb hby d1_21) rfl ?_
        show Steps _ _ _ (s₁.setTop (mkF m 22 #[vJ q1, .second, vI p2, vI v1] [iI v1])) _
        refine XS.iconst X0.here hx rfl (hb hby d1_22) ?_
        show Steps _ _ _ (s₁.setTop (mkF m 23 #[vJ q1, .second, vI p2, vI v1] [iI 1, iI v1])) _
        refine XS.iadd X0.here hx rfl (hb hby d1_23) rfl ?_
        show Steps _ _ _ (s₁.setTop (mkF m 24 #[vJ q1, .second, vI p2, vI v1] [iI (v1 + (1 : Int32))])) _
        refine XS.i2b X0.here hx rfl (hb hby d1_24) rfl ?_
        show Steps _ _ _ (s₁.setTop (mkF m 25 #[vJ q1, .second, vI p2, vI v1] [iI (v1 + (1 : Int32)).toInt8.toInt32])) _
        refine XS.goto X0.here hx rfl (pc0 := 25) (pc' := 29) rfl (hb hby d1_25) (by decide) (by decide) ?_
        exact kt
      · refine ⟨s₁, X0, e0, fun t kt => ?_⟩
        subst hv2
        simp only [if_neg hc4, if_neg hc5] at kt
        refine pre6 t ?_
        show Steps _ _ _ (s₁.setTop (mkF m 18 #[vJ q1, .second, vI p2, vI v1] [iI 9, iI v1])) _
        refine XS.icmpYes X0.here hx rfl (pc0 := 18) (pc' := 28) rfl (hb hby d1_18) rfl (feq hc5).2 (by decide) (by decide) ?_
        show Steps _ _ _ (s₁.setTop (mkF m 28 #[vJ q1, .second, vI p2, vI v1] [])) _
        refine XS.iloadN X0.here hx rfl (hb hby d1_28) rfl ?_
        exact kt
  obtain ⟨fs, hr, hrun, hended, hW, hsame⟩ := X3.leave (v := some (.int (nar .byte v2))) (fun h => by rw [Bd.returns] at h; cases h)
  refine ⟨_, _, pre0 _ ?_, hrun, hended, _, _, rfl, ?_, ⟨_, rfl⟩, hW, hsame.mono (by decide) (by decide)⟩
  · show Steps _ _ _ (s₁.setTop (mkF m 0 #[vJ q1, .second, vI p2, .unset] [])) _
    refine XS.lloadN X0.here hx rfl (hb hby d1_0) rfl ?_
    show Steps _ _ _ (s₁.setTop (mkF m 1 #[vJ q1, .second, vI p2, .unset] [iJ q1])) _
    refine XS.bipush X0.here hx rfl (hb hby d1_1) ?_
    show Steps _ _ _ (s₁.setTop (mkF m 3 #[vJ q1, .second, vI p2, .unset] [iI 8, iJ q1])) _
    refine XS.iloadN X0.here hx rfl (hb hby d1_3) rfl ?_
    show Steps _ _ _ (s₁.setTop (mkF m 4 #[vJ q1, .second, vI p2, .unset] [iI p2, iI 8, iJ q1])) _
    refine XS.imul X0.here hx rfl (hb hby d1_4) rfl ?_
    show Steps _ _ _ (s₁.setTop (mkF m 5 #[vJ q1, .second, vI p2, .unset] [iI ((8 : Int32) * p2), iJ q1])) _
    refine XS.lushr X0.here hx rfl (hb hby d1_5) rfl ?_
    show Steps _ _ _ (s₁.setTop (mkF m 6 #[vJ q1, .second, vI p2, .unset] [iJ ((q1.toUInt64 >>> (((8 : Int32) * p2) &&& 0x3f).toInt64.toUInt64).toInt64)])) _
    refine XS.l2i X0.here hx rfl (hb hby d1_6) rfl ?_
    show Steps _ _ _ (s₁.setTop (mkF m 7 #[vJ q1, .second, vI p2, .unset] [iI ((q1.toUInt64 >>> (((8 : Int32) * p2) &&& 0x3f).toInt64.toUInt64).toInt64).toInt32])) _
    refine XS.i2b X0.here hx rfl (hb hby d1_7) rfl ?_
    show Steps _ _ _ (s₁.setTop (mkF m 8 #[vJ q1, .second, vI p2, .unset] [iI ((q1.toUInt64 >>> (((8 : Int32) * p2) &&& 0x3f).toInt64.toUInt64).toInt64).toInt32.toInt8.toInt32])) _
    refine XS.istoreN X0.here hx rfl (hb hby d1_8) rfl (l' := #[vJ q1, .second, vI p2, vI ((q1.toUInt64 >>> (((8 : Int32) * p2) &&& 0x3f).toInt64.toUInt64).toInt64).toInt32.toInt8.toInt32]) rfl ?_
    rw [← hv1]
    show Steps _ _ _ (s₁.setTop (mkF m 9 #[vJ q1, .second, vI p2, vI v1] [])) _
    refine XS.iloadN X0.here hx rfl (hb hby d1_9) rfl ?_
    show Steps _ _ _ (s₁.setTop (mkF m 10 #[vJ q1, .second, vI p2, vI v1] [iI v1])) _
    refine XS.bipush X0.here hx rfl (hb hby d1_10) ?_
    show Steps _ _ _ (s₁.setTop (mkF m 12 #[vJ q1, .second, vI p2, vI v1] [iI 32, iI v1])) _
    refine st3 _ ?_
    show Steps _ _ _ (T3.setTop (mkF m 29 #[vJ q1, .second, vI p2, vI v1] [iI v2])) _
    exact retN X3 hx (t := .byte) Bd.returns (by simp) (hb hby d1_29) hr
  · show Q1 Z q1 p2 h0 _ T3.heap _
    rw [e3]
    exact ⟨by subst hv2 hv1; first | rfl | (simp only [own_ns]; done) | (simp only [own_ns]; rfl) | (simp only [own_ns, nar] ; first | rfl | (simp; done) | decide), rfl, rfl⟩
def own_min (p1 : Int32) (p2 : Int32) : Int32 := (if p2 < p1 then p2 else p1)
theorem d2_0 : decode jdk_29_method_69_code 0 = .ok (.iload_n 0, 1) := by decide +kernel
theorem d2_1 : decode jdk_29_method_69_code 1 = .ok (.iload_n 1, 1) := by decide +kernel
theorem d2_2 : decode jdk_29_method_69_code 2 = .ok (.if_icmp .gt 7, 3) := by decide +kernel
theorem d2_5 : decode jdk_29_method_69_code 5 = .ok (.iload_n 0, 1) := by decide +kernel
theorem d2_6 : decode jdk_29_method_69_code 6 = .ok (.goto 4, 3) := by decide +kernel
theorem d2_9 : decode jdk_29_method_69_code 9 = .ok (.iload_n 1, 1) := by decide +kernel
theorem d2_10 : decode jdk_29_method_69_code 10 = .ok (.ireturn, 1) := by decide +kernel
theorem ef_2 (m : MethodId) (x0 : Int32) (x1 : Int32) : entryFrame m #[(.int x0), (.int x1)] 2 = mkF m 0 #[.val (.int x0), .val (.int x1)] [] := by first | (simp [entryFrame, mkF, argsToLocals, Value.category]; done) | rfl
def Q2 (Z : State) (p1 : Int32) (p2 : Int32) (h0 : Heap) (v : Option Value) (h : Heap) (L : List Loc) : Prop := v = some (.int (own_min p1 p2)) ∧ L = [] ∧ h = h0
set_option maxRecDepth 65536 in
set_option maxHeartbeats 40000000 in
theorem rm2 (l : Launch) (Z : State) (a0 : Array Value) (hw : ∀ d ∈ tables_1, d.before a0 Z = true) (ws : List Jvm.Cond) (p1 : Int32) (p2 : Int32) (h0 : Heap) :
    MetFree l (⟨"java/lang/Math", "min", "(II)I"⟩ : MethodName) (head1 (Jvm.Cond.code (⟨"java/lang/Math", "min", "(II)I"⟩ : MethodName) jdk_29_method_69_code 2 (some .int) :: ws) ({ frames := 0, cells := 0, slots := 0, locals := 0 } : Room)) (fun a U => a = #[(.int p1), (.int p2)] ∧ Z.Warmed39 U.vm ∧ U.heap = h0) (fun _ _ _ _ _ => True) (fun _ U o U' => ∃ v L, o = .returned v ∧ Q2 Z p1 p2 h0 v U'.heap L ∧ FrameEnd U o U' L ({ frames := 0, cells := 0, slots := 0, locals := 0 } : Room).cells ({ frames := 0, cells := 0, slots := 0, locals := 0 } : Room).slots) := by
  refine MetFree.of_bodySF (Jvm.Free.JP.mathPlain rfl (by decide +kernel)) hisR ?_
  intro p e s m args below meth c s₁ Bd hml0 hP hK
  obtain ⟨rfl, hZ, hh⟩ := hP
  have hx := Bd.exec
  have hby := Bd.bytes
  have hml : c.maxLocals = 2 := hml0
  have hown : s.vm.findClass "java/lang/Math" = some m.cls := findClass_of_methodNamed Bd.named
  have hnm := (name_of_methodNamed Bd.named Bd.method).1
  have X0 : Stand p l e ({ frames := 0, cells := 0, slots := 0, locals := 0 } : Room) s m #[(.int p1), (.int p2)] below meth c s₁ [] 0 0 := Stand.of_body Bd
  have e0 : s₁.heap = h0 := by rw [← hh, Bd.state]; rfl
  have pre0 : ∀ t, Steps p.tables e below (s₁.setTop (mkF m 0 #[.val (.int p1), .val (.int p2)] [])) t → Steps p.tables e below (s₁.setTop (entryFrame m #[(.int p1), (.int p2)] 2)) t := fun t k => castTop (ef_2 m p1 p2) k
  obtain ⟨v1, hv1⟩ : ∃ z : Int32, z = (if p2 < p1 then p2 else p1) := ⟨_, rfl⟩
  obtain ⟨T2, X2, e2, st2⟩ : own_Mid X0 h0 (mkF m 2 #[vI p1, vI p2] [iI p2, iI p1]) (mkF m 10 #[vI p1, vI p2] [iI v1]) := by
    by_cases hc3 : p2 < p1
    · refine ⟨s₁, X0, e0, fun t kt => ?_⟩
      subst hv1
      simp only [if_pos hc3] at kt
      show Steps _ _ _ (s₁.setTop (mkF m 2 #[vI p1, vI p2] [iI p2, iI p1])) _
      refine XS.icmpYes X0.here hx rfl (pc0 := 2) (pc' := 9) rfl (hb hby d2_2) rfl (tlt hc3).2.2.1 (by decide) (by decide) ?_
      show Steps _ _ _ (s₁.setTop (mkF m 9 #[vI p1, vI p2] [])) _
      refine XS.iloadN X0.here hx rfl (hb hby d2_9) rfl ?_
      exact kt
    · refine ⟨s₁, X0, e0, fun t kt => ?_⟩
      subst hv1
      simp only [if_neg hc3] at kt
      show Steps _ _ _ (s₁.setTop (mkF m 2 #[vI p1, vI p2] [iI p2, iI p1])) _
      refine XS.icmpNo X0.here hx rfl (hb hby d2_2) rfl (flt hc3).2.2.1 ?_
      show Steps _ _ _ (s₁.setTop (mkF m 5 #[vI p1, vI p2] [])) _
      refine XS.iloadN X0.here hx rfl (hb hby d2_5) rfl ?_
      show Steps _ _ _ (s₁.setTop (mkF m 6 #[vI p1, vI p2] [iI p1])) _
      refine XS.goto X0.here hx rfl (pc0 := 6) (pc' := 10) rfl (hb hby d2_6) (by decide) (by decide) ?_
      exact kt
  obtain ⟨fs, hr, hrun, hended, hW, hsame⟩ := X2.leave (v := some (.int v1)) (fun h => by rw [Bd.returns] at h; cases h)
  refine ⟨_, _, pre0 _ ?_, hrun, hended, _, _, rfl, ?_, ⟨_, rfl⟩, hW, hsame.mono (by decide) (by decide)⟩
  · show Steps _ _ _ (s₁.setTop (mkF m 0 #[vI p1, vI p2] [])) _
    refine XS.iloadN X0.here hx rfl (hb hby d2_0) rfl ?_
    show Steps _ _ _ (s₁.setTop (mkF m 1 #[vI p1, vI p2] [iI p1])) _
    refine XS.iloadN X0.here hx rfl (hb hby d2_1) rfl ?_
    show Steps _ _ _ (s₁.setTop (mkF m 2 #[vI p1, vI p2] [iI p2, iI p1])) _
    refine st2 _ ?_
    show Steps _ _ _ (T2.setTop (mkF m 10 #[vI p1, vI p2] [iI v1])) _
    exact retI X2 hx Bd.returns (hb hby d2_10) hr
  · show Q2 Z p1 p2 h0 _ T2.heap _
    rw [e2]
    exact ⟨by subst hv1; first | rfl | (simp only [own_min]; done) | (simp only [own_min]; rfl) | (simp only [own_min, nar] ; first | rfl | (simp; done) | decide), rfl, rfl⟩
def own_sep (p1 : Int32) : Int32 := (nar .boolean (if p1 = (32 : Int32) then (1 : Int32) else (if p1 = (9 : Int32) then (1 : Int32) else (0 : Int32))))
theorem d6_0 : decode prog_40_method_4_code 0 = .ok (.iload_n 0, 1) := by decide +kernel
theorem d6_1 : decode prog_40_method_4_code 1 = .ok (.bipush 32, 2) := by decide +kernel
theorem d6_3 : decode prog_40_method_4_code 3 = .ok (.if_icmp .eq 9, 3) := by decide +kernel
theorem d6_6 : decode prog_40_method_4_code 6 = .ok (.iload_n 0, 1) := by decide +kernel
theorem d6_7 : decode prog_40_method_4_code 7 = .ok (.bipush 9, 2) := by decide +kernel
theorem d6_9 : decode prog_40_method_4_code 9 = .ok (.if_icmp .ne 7, 3) := by decide +kernel
theorem d6_12 : decode prog_40_method_4_code 12 = .ok (.iconst 1, 1) := by decide +kernel
theorem d6_13 : decode prog_40_method_4_code 13 = .ok (.goto 4, 3) := by decide +kernel
theorem d6_16 : decode prog_40_method_4_code 16 = .ok (.iconst 0, 1) := by decide +kernel
theorem d6_17 : decode prog_40_method_4_code 17 = .ok (.ireturn, 1) := by decide +kernel
theorem pn_1 : plainName "com/example/tidemine/tidemine/TextFormat" = true := by first | (simp [plainName, overriddenIn]; done) | decide +kernel
theorem ef_6 (m : MethodId) (x0 : Int32) : entryFrame m #[(.int x0)] 1 = mkF m 0 #[.val (.int x0)] [] := by first | (simp [entryFrame, mkF, argsToLocals, Value.category]; done) | rfl
def Q6 (Z : State) (p1 : Int32) (h0 : Heap) (v : Option Value) (h : Heap) (L : List Loc) : Prop := v = some (.int (own_sep p1)) ∧ L = [] ∧ h = h0
set_option maxRecDepth 65536 in
set_option maxHeartbeats 40000000 in
theorem rm6 (l : Launch) (Z : State) (a0 : Array Value) (hw : ∀ d ∈ tables_1, d.before a0 Z = true) (ws : List Jvm.Cond) (p1 : Int32) (h0 : Heap) :
    MetFree l (⟨"com/example/tidemine/tidemine/TextFormat", "isSeparator", "(B)Z"⟩ : MethodName) (head1 (Jvm.Cond.code (⟨"com/example/tidemine/tidemine/TextFormat", "isSeparator", "(B)Z"⟩ : MethodName) prog_40_method_4_code 1 (some .boolean) :: ws) ({ frames := 0, cells := 0, slots := 0, locals := 0 } : Room)) (fun a U => a = #[(.int p1)] ∧ Z.Warmed39 U.vm ∧ U.heap = h0) (fun _ _ _ _ _ => True) (fun _ U o U' => ∃ v L, o = .returned v ∧ Q6 Z p1 h0 v U'.heap L ∧ FrameEnd U o U' L ({ frames := 0, cells := 0, slots := 0, locals := 0 } : Room).cells ({ frames := 0, cells := 0, slots := 0, locals := 0 } : Room).slots) := by
  refine MetFree.of_bodySF (plainFor_of_name pn_1) hisR ?_
  intro p e s m args below meth c s₁ Bd hml0 hP hK
  obtain ⟨rfl, hZ, hh⟩ := hP
  have hx := Bd.exec
  have hby := Bd.bytes
  have hml : c.maxLocals = 1 := hml0
  have hown : s.vm.findClass "com/example/tidemine/tidemine/TextFormat" = some m.cls := findClass_of_methodNamed Bd.named
  have hnm := (name_of_methodNamed Bd.named Bd.method).1
  have X0 : Stand p l e ({ frames := 0, cells := 0, slots := 0, locals := 0 } : Room) s m #[(.int p1)] below meth c s₁ [] 0 0 := Stand.of_body Bd
  have e0 : s₁.heap = h0 := by rw [← hh, Bd.state]; rfl
  have pre0 : ∀ t, Steps p.tables e below (s₁.setTop (mkF m 0 #[.val (.int p1)] [])) t → Steps p.tables e below (s₁.setTop (entryFrame m #[(.int p1)] 1)) t := fun t k => castTop (ef_6 m p1) k
  obtain ⟨v1, hv1⟩ : ∃ z : Int32, z = (if p1 = (32 : Int32) then (1 : Int32) else (if p1 = (9 : Int32) then (1 : Int32) else (0 : Int32))) := ⟨_, rfl⟩
  obtain ⟨T2, X2, e2, st2⟩ : own_Mid X0 h0 (mkF m 3 #[vI p1] [iI 32, iI p1]) (mkF m 17 #[vI p1] [iI v1]) := by
    by_cases hc3 : p1 = (32 : Int32)
    · refine ⟨s₁, X0, e0, fun t kt => ?_⟩
      subst hv1
      simp only [if_pos hc3] at kt
      show Steps _ _ _ (s₁.setTop (mkF m 3 #[vI p1] [iI 32, iI p1])) _
      refine XS.icmpYes X0.here hx rfl (pc0 := 3) (pc' := 12) rfl (hb hby d6_3) rfl (teq hc3).1 (by decide) (by decide) ?_
      show Steps _ _ _ (s₁.setTop (mkF m 12 #[vI p1] [])) _
      refine XS.iconst X0.here hx rfl (hb hby d6_12) ?_
      show Steps _ _ _ (s₁.setTop (mkF m 13 #[vI p1] [iI 1])) _
      refine XS.goto X0.here hx rfl (pc0 := 13) (pc' := 17) rfl (hb hby d6_13) (by decide) (by decide) ?_
      exact kt
    · have pre5 : ∀ t, Steps p.tables e below (s₁.setTop (mkF m 9 #[vI p1] [iI 9, iI p1])) t → Steps p.tables e below (s₁.setTop (mkF m 3 #[vI p1] [iI 32, iI p1])) t := by
        intro t kt
        show Steps _ _ _ (s₁.setTop (mkF m 3 #[vI p1] [iI 32, iI p1])) _
        refine XS.icmpNo X0.here hx rfl (hb hby d6_3) rfl (feq hc3).1 ?_
        show Steps _ _ _ (s₁.setTop (mkF m 6 #[vI p1] [])) _
        refine XS.iloadN X0.here hx rfl (hb hby d6_6) rfl ?_
        show Steps _ _ _ (s₁.setTop (mkF m 7 #[vI p1] [iI p1])) _
        refine XS.bipush X0.here hx rfl (hb hby d6_7) ?_
        exact kt
      by_cases hc4 : p1 = (9 : Int32)
      · refine ⟨s₁, X0, e0, fun t kt => ?_⟩
        subst hv1
        simp only [if_neg hc3, if_pos hc4] at kt
        refine pre5 t ?_
        show Steps _ _ _ (s₁.setTop (mkF m 9 #[vI p1] [iI 9, iI p1])) _
        refine XS.icmpNo X0.here hx rfl (hb hby d6_9) rfl (teq hc4).2 ?_
        show Steps _ _ _ (s₁.setTop (mkF m 12 #[vI p1] [])) _
        refine XS.iconst X0.here hx rfl (hb hby d6_12) ?_
        show Steps _ _ _ (s₁.setTop (mkF m 13 #[vI p1] [iI 1])) _
        refine XS.goto X0.here hx rfl (pc0 := 13) (pc' := 17) rfl (hb hby d6_13) (by decide) (by decide) ?_
        exact kt
      · refine ⟨s₁, X0, e0, fun t kt => ?_⟩
        subst hv1
        simp only [if_neg hc3, if_neg hc4] at kt
        refine pre5 t ?_
        show Steps _ _ _ (s₁.setTop (mkF m 9 #[vI p1] [iI 9, iI p1])) _
        refine XS.icmpYes X0.here hx rfl (pc0 := 9) (pc' := 16) rfl (hb hby d6_9) rfl (feq hc4).2 (by decide) (by decide) ?_
        show Steps _ _ _ (s₁.setTop (mkF m 16 #[vI p1] [])) _
        refine XS.iconst X0.here hx rfl (hb hby d6_16) ?_
        exact kt
  obtain ⟨fs, hr, hrun, hended, hW, hsame⟩ := X2.leave (v := some (.int (nar .boolean v1))) (fun h => by rw [Bd.returns] at h; cases h)
  refine ⟨_, _, pre0 _ ?_, hrun, hended, _, _, rfl, ?_, ⟨_, rfl⟩, hW, hsame.mono (by decide) (by decide)⟩
  · show Steps _ _ _ (s₁.setTop (mkF m 0 #[vI p1] [])) _
    refine XS.iloadN X0.here hx rfl (hb hby d6_0) rfl ?_
    show Steps _ _ _ (s₁.setTop (mkF m 1 #[vI p1] [iI p1])) _
    refine XS.bipush X0.here hx rfl (hb hby d6_1) ?_
    show Steps _ _ _ (s₁.setTop (mkF m 3 #[vI p1] [iI 32, iI p1])) _
    refine st2 _ ?_
    show Steps _ _ _ (T2.setTop (mkF m 17 #[vI p1] [iI v1])) _
    exact retN X2 hx (t := .boolean) Bd.returns (by simp) (hb hby d6_17) hr
  · show Q6 Z p1 h0 _ T2.heap _
    rw [e2]
    exact ⟨by subst hv1; first | rfl | (simp only [own_sep]; done) | (simp only [own_sep]; rfl) | (simp only [own_sep, nar] ; first | rfl | (simp; done) | decide), rfl, rfl⟩
theorem d3_0 : decode prog_41_method_1_code 0 = .ok (.aload_n 0, 1) := by decide +kernel
theorem d3_1 : decode prog_41_method_1_code 1 = .ok (.invokespecial 1, 3) := by decide +kernel
theorem d3_4 : decode prog_41_method_1_code 4 = .ok (.aload_n 0, 1) := by decide +kernel
theorem d3_5 : decode prog_41_method_1_code 5 = .ok (.bipush 16, 2) := by decide +kernel
theorem d3_7 : decode prog_41_method_1_code 7 = .ok (.newarray .int, 2) := by decide +kernel
theorem d3_9 : decode prog_41_method_1_code 9 = .ok (.putfield 7, 3) := by decide +kernel
theorem d3_12 : decode prog_41_method_1_code 12 = .ok (.aload_n 0, 1) := by decide +kernel
theorem d3_13 : decode prog_41_method_1_code 13 = .ok (.bipush 16, 2) := by decide +kernel
theorem d3_15 : decode prog_41_method_1_code 15 = .ok (.newarray .int, 2) := by decide +kernel
theorem d3_17 : decode prog_41_method_1_code 17 = .ok (.putfield 13, 3) := by decide +kernel
theorem d3_20 : decode prog_41_method_1_code 20 = .ok (.return_, 1) := by decide +kernel
theorem pn_2 : plainName "com/example/tidemine/tidemine/TextFormat$Tokens" = true := by first | (simp [plainName, overriddenIn]; done) | decide +kernel
theorem ef_3 (m : MethodId) (x0 : Addr) : entryFrame m #[(.ref x0)] 1 = mkF m 0 #[.val (.ref x0)] [] := by first | (simp [entryFrame, mkF, argsToLocals, Value.category]; done) | rfl
def Q3 (Z : State) (a1 : Addr) (h0 : Heap) (n0 : Nat) (v : Option Value) (h : Heap) (L : List Loc) : Prop := ∃ (s1 s2 : Addr) (k1 k2 : ClassId), v = none ∧ Fr n0 L ∧ Keep h0 h [a1] ∧ Exa Z h a1 "com/example/tidemine/tidemine/TextFormat$Tokens" ∧ Fld Z h a1 "com/example/tidemine/tidemine/TextFormat$Tokens" "line" "[B" .null ∧ Fld Z h a1 "com/example/tidemine/tidemine/TextFormat$Tokens" "starts" "[I" (.ref s1) ∧ Fld Z h a1 "com/example/tidemine/tidemine/TextFormat$Tokens" "ends" "[I" (.ref s2) ∧ Fld Z h a1 "com/example/tidemine/tidemine/TextFormat$Tokens" "count" "I" (.int (0 : Int32)) ∧ Arv Z h s1 k1 .int (16 : Int32) [(.int (0 : Int32)), (.int (0 : Int32)), (.int (0 : Int32)), (.int (0 : Int32)), (.int (0 : Int32)), (.int (0 : Int32)), (.int (0 : Int32)), (.int (0 : Int32)), (.int (0 : Int32)), (.int (0 : Int32)), (.int (0 : Int32)), (.int (0 : Int32)), (.int (0 : Int32)), (.int (0 : Int32)), (.int (0 : Int32)), (.int (0 : Int32))] (.int (0 : Int32)) ∧ Arv Z h s2 k2 .int (16 : Int32) [(.int (0 : Int32)), (.int (0 : Int32)), (.int (0 : Int32)), (.int (0 : Int32)), (.int (0 : Int32)), (.int (0 : Int32)), (.int (0 : Int32)), (.int (0 : Int32)), (.int (0 : Int32)), (.int (0 : Int32)), (.int (0 : Int32)), (.int (0 : Int32)), (.int (0 : Int32)), (.int (0 : Int32)), (.int (0 : Int32)), (.int (0 : Int32))] (.int (0 : Int32)) ∧ h0.size ≤ s1 ∧ h0.size ≤ s2 ∧ s1 ≠ s2
set_option maxRecDepth 65536 in
set_option maxHeartbeats 40000000 in
theorem rm3 (l : Launch) (Z : State) (a0 : Array Value) (hw : ∀ d ∈ tables_1, d.before a0 Z = true) (ws : List Jvm.Cond) (a1 : Addr) (h0 : Heap) (n0 : Nat) (Z0 : n0 ≤ h0.size) (E_a1 : Exa Z h0 a1 "com/example/tidemine/tidemine/TextFormat$Tokens") (g_a1 : n0 ≤ a1) (F_line : Fld Z h0 a1 "com/example/tidemine/tidemine/TextFormat$Tokens" "line" "[B" .null) (F_starts : Fld Z h0 a1 "com/example/tidemine/tidemine/TextFormat$Tokens" "starts" "[I" .null) (F_ends : Fld Z h0 a1 "com/example/tidemine/tidemine/TextFormat$Tokens" "ends" "[I" .null) (F_count : Fld Z h0 a1 "com/example/tidemine/tidemine/TextFormat$Tokens" "count" "I" (.int (0 : Int32))) :
    MetFree l (⟨"com/example/tidemine/tidemine/TextFormat$Tokens", "<init>", "()V"⟩ : MethodName) (head1 (Jvm.Cond.code (⟨"com/example/tidemine/tidemine/TextFormat$Tokens", "<init>", "()V"⟩ : MethodName) prog_41_method_1_code 1 none :: ws) ({ frames := 1, cells := 2, slots := 32, locals := 12 } : Room)) (fun a U => a = #[(.ref a1)] ∧ Z.Warmed39 U.vm ∧ U.heap = h0) (fun _ _ _ _ _ => True) (fun _ U o U' => ∃ v L, o = .returned v ∧ Q3 Z a1 h0 n0 v U'.heap L ∧ FrameEnd U o U' L ({ frames := 1, cells := 2, slots := 32, locals := 12 } : Room).cells ({ frames := 1, cells := 2, slots := 32, locals := 12 } : Room).slots) := by
  refine MetFree.of_bodySF (plainFor_of_name pn_2) hisR ?_
  intro p e s m args below meth c s₁ Bd hml0 hP hK
  obtain ⟨rfl, hZ, hh⟩ := hP
  have hx := Bd.exec
  have hby := Bd.bytes
  have hml : c.maxLocals = 1 := hml0
  have hown : s.vm.findClass "com/example/tidemine/tidemine/TextFormat$Tokens" = some m.cls := findClass_of_methodNamed Bd.named
  have hnm := (name_of_methodNamed Bd.named Bd.method).1
  have X0 : Stand p l e ({ frames := 1, cells := 2, slots := 32, locals := 12 } : Room) s m #[(.ref a1)] below meth c s₁ [] 0 0 := Stand.of_body Bd
  have e0 : s₁.heap = h0 := by rw [← hh, Bd.state]; rfl
  have N0 := Fr.nil n0
  have K0 := Keep.refl h0 [a1]
  have pre0 : ∀ t, Steps p.tables e below (s₁.setTop (mkF m 0 #[.val (.ref a1)] [])) t → Steps p.tables e below (s₁.setTop (entryFrame m #[(.ref a1)] 1)) t := fun t k => castTop (ef_3 m a1) k
  obtain ⟨T1, X1, e1, st1⟩ := initO X0 hx hZ hown (hw _ (List.mem_of_getElem? (i := 15) rfl)) (hw _ (List.mem_of_getElem? (i := 16) rfl)) (hw _ (List.mem_of_getElem? (i := 17) rfl)) e0 (g := (mkF m 1 #[vR a1] [iR a1])) rfl (by rw [hml]; rfl) rfl (hb hby d3_1) (by decide) (W := 0) (by show 2 * 0 + _ ≤ _; exact Nat.le_of_eq rfl) (by decide)
  obtain ⟨T2, h2, k2, X2, e2, E2, A2, st2⟩ := newP X1 hx hZ (hw _ (List.mem_of_getElem? (i := 18) rfl)) e1 (g := (mkF m 7 #[vR a1] [iI 16, iR a1])) rfl (hb hby d3_7) rfl (by decide) (cap := 16) (by decide) (by decide) (by decide) (by decide)
  obtain ⟨b2, g2⟩ : ∃ z, z = h0.size := ⟨_, rfl⟩
  rw [← g2] at A2 st2
  have ne_a1_b2 : a1 ≠ b2 := Nat.ne_of_lt (Nat.lt_of_lt_of_le E_a1.lt (Nat.le_of_eq g2.symm))
  have sz_b2 : h0.size ≤ b2 := Nat.le_trans K0.1 (Nat.le_of_eq g2.symm)
  have g_b2 : n0 ≤ b2 := Nat.le_trans Z0 sz_b2
  have K2 : Keep h0 h2 [a1] := K0.ext E2
  have V2 : Arv Z h2 b2 k2 .int (16 : Int32) [(.int (0 : Int32)), (.int (0 : Int32)), (.int (0 : Int32)), (.int (0 : Int32)), (.int (0 : Int32)), (.int (0 : Int32)), (.int (0 : Int32)), (.int (0 : Int32)), (.int (0 : Int32)), (.int (0 : Int32)), (.int (0 : Int32)), (.int (0 : Int32)), (.int (0 : Int32)), (.int (0 : Int32)), (.int (0 : Int32)), (.int (0 : Int32))] (.int (0 : Int32)) := (Arv.new A2 (by decide)).pad (pad_rep [] (.int (0 : Int32)) 16)
  have fk3 := (F_starts.ext E2)
  have fk4 := (E_a1.ext E2)
  obtain ⟨T5, h5, X5, e5, W5, st5⟩ := putF X2 hx hZ hown (host := "") (Or.inl (hw _ (List.mem_of_getElem? (i := 19) rfl))) Via.refl e2 fk3 fk4 (Or.inl (hw _ (List.mem_of_getElem? (i := 20) rfl))) (hw _ (List.mem_of_getElem? (i := 10) rfl)) (ty := (.array .int)) (by decide) rfl rfl (g := (mkF m 9 #[vR a1] [iR b2, iR a1])) rfl rfl (hb hby d3_9)
  have Fw5 := fk3.same W5
  have K5 : Keep h0 h5 [a1] := K2.wr W5 (Or.inl (List.mem_of_getElem? (i := 0) rfl))
  have N5 := Fr.snoc X5 N0 g_a1
  obtain ⟨T6, h6, k6, X6, e6, E6, A6, st6⟩ := newP X5 hx hZ (hw _ (List.mem_of_getElem? (i := 18) rfl)) e5 (g := (mkF m 15 #[vR a1] [iI 16, iR a1])) rfl (hb hby d3_15) rfl (by decide) (cap := 16) (by decide) (by decide) (by decide) (by decide)
  obtain ⟨b6, g6⟩ : ∃ z, z = h5.size := ⟨_, rfl⟩
  rw [← g6] at A6 st6
  have fk7 := (fk4.wr W5)
  have ne_a1_b6 : a1 ≠ b6 := Nat.ne_of_lt (Nat.lt_of_lt_of_le fk7.lt (Nat.le_of_eq g6.symm))
  have fk8 := (V2.other W5 (Ne.symm ne_a1_b2))
  have ne_b2_b6 : b2 ≠ b6 := Nat.ne_of_lt (Nat.lt_of_lt_of_le fk8.lt (Nat.le_of_eq g6.symm))
  have sz_b6 : h0.size ≤ b6 := Nat.le_trans K5.1 (Nat.le_of_eq g6.symm)
  have g_b6 : n0 ≤ b6 := Nat.le_trans Z0 sz_b6
  have K6 : Keep h0 h6 [a1] := K5.ext E6
  have V6 : Arv Z h6 b6 k6 .int (16 : Int32) [(.int (0 : Int32)), (.int (0 : Int32)), (.int (0 : Int32)), (.int (0 : Int32)), (.int (0 : Int32)), (.int (0 : Int32)), (.int (0 : Int32)), (.int (0 : Int32)), (.int (0 : Int32)), (.int (0 : Int32)), (.int (0 : Int32)), (.int (0 : Int32)), (.int (0 : Int32)), (.int (0 : Int32)), (.int (0 : Int32)), (.int (0 : Int32))] (.int (0 : Int32)) := (Arv.new A6 (by decide)).pad (pad_rep [] (.int (0 : Int32)) 16)
  have fk9 := (((F_ends.ext E2).other W5 (Or.inr (slot_ne (Or.inl (hw _ (List.mem_of_getElem? (i := 22) rfl))) (Or.inl (hw _ (List.mem_of_getElem? (i := 20) rfl))) (by decide) (t := (.array .int)) (t' := (.array .int)) (by decide) (by decide)))).ext E6)
  have fk10 := (fk7.ext E6)
  obtain ⟨T11, h11, X11, e11, W11, st11⟩ := putF X6 hx hZ hown (host := "") (Or.inl (hw _ (List.mem_of_getElem? (i := 21) rfl))) Via.refl e6 fk9 fk10 (Or.inl (hw _ (List.mem_of_getElem? (i := 22) rfl))) (hw _ (List.mem_of_getElem? (i := 10) rfl)) (ty := (.array .int)) (by decide) rfl rfl (g := (mkF m 17 #[vR a1] [iR b6, iR a1])) rfl rfl (hb hby d3_17)
  have Fw11 := fk9.same W11
  have K11 : Keep h0 h11 [a1] := K6.wr W11 (Or.inl (List.mem_of_getElem? (i := 0) rfl))
  have N11 := Fr.snoc X11 N5 g_a1
  obtain ⟨fs, hr, hrun, hended, hW, hsame⟩ := X11.leave (v := none) (fun _ => rfl)
  have fk12 := (fk10.wr W11)
  have fk13 := ((((F_line.ext E2).other W5 (Or.inr (slot_ne (Or.inl (hw _ (List.mem_of_getElem? (i := 29) rfl))) (Or.inl (hw _ (List.mem_of_getElem? (i := 20) rfl))) (by decide) (t := (.array .byte)) (t' := (.array .int)) (by decide) (by decide)))).ext E6).other W11 (Or.inr (slot_ne (Or.inl (hw _ (List.mem_of_getElem? (i := 29) rfl))) (Or.inl (hw _ (List.mem_of_getElem? (i := 22) rfl))) (by decide) (t := (.array .byte)) (t' := (.array .int)) (by decide) (by decide))))
  have fk14 := ((Fw5.ext E6).other W11 (Or.inr (slot_ne (Or.inl (hw _ (List.mem_of_getElem? (i := 20) rfl))) (Or.inl (hw _ (List.mem_of_getElem? (i := 22) rfl))) (by decide) (t := (.array .int)) (t' := (.array .int)) (by decide) (by decide))))
  have fk15 := ((((F_count.ext E2).other W5 (Or.inr (slot_ne (Or.inl (hw _ (List.mem_of_getElem? (i := 31) rfl))) (Or.inl (hw _ (List.mem_of_getElem? (i := 20) rfl))) (by decide) (t := .int) (t' := (.array .int)) (by decide) (by decide)))).ext E6).other W11 (Or.inr (slot_ne (Or.inl (hw _ (List.mem_of_getElem? (i := 31) rfl))) (Or.inl (hw _ (List.mem_of_getElem? (i := 22) rfl))) (by decide) (t := .int) (t' := (.array .int)) (by decide) (by decide))))
  have fk16 := ((fk8.ext E6).other W11 (Ne.symm ne_a1_b2))
  have fk17 := (V6.other W11 (Ne.symm ne_a1_b6))
  refine ⟨_, _, pre0 _ ?_, hrun, hended, _, _, rfl, ?_, ⟨_, rfl⟩, hW, hsame.mono (by decide) (by decide)⟩
  · show Steps _ _ _ (s₁.setTop (mkF m 0 #[vR a1] [])) _
    refine XS.aloadN X0.here hx rfl (hb hby d3_0) rfl rfl ?_
    show Steps _ _ _ (s₁.setTop (mkF m 1 #[vR a1] [iR a1])) _
    refine st1 _ ?_
    show Steps _ _ _ (T1.setTop (mkF m 4 #[vR a1] [])) _
    refine XS.aloadN X1.here hx rfl (hb hby d3_4) rfl rfl ?_
    show Steps _ _ _ (T1.setTop (mkF m 5 #[vR a1] [iR a1])) _
    refine XS.bipush X1.here hx rfl (hb hby d3_5) ?_
    show Steps _ _ _ (T1.setTop (mkF m 7 #[vR a1] [iI 16, iR a1])) _
    refine st2 _ ?_
    show Steps _ _ _ (T2.setTop (mkF m 9 #[vR a1] [iR b2, iR a1])) _
    refine st5 _ ?_
    show Steps _ _ _ (T5.setTop (mkF m 12 #[vR a1] [])) _
    refine XS.aloadN X5.here hx rfl (hb hby d3_12) rfl rfl ?_
    show Steps _ _ _ (T5.setTop (mkF m 13 #[vR a1] [iR a1])) _
    refine XS.bipush X5.here hx rfl (hb hby d3_13) ?_
    show Steps _ _ _ (T5.setTop (mkF m 15 #[vR a1] [iI 16, iR a1])) _
    refine st6 _ ?_
    show Steps _ _ _ (T6.setTop (mkF m 17 #[vR a1] [iR b6, iR a1])) _
    refine st11 _ ?_
    show Steps _ _ _ (T11.setTop (mkF m 20 #[vR a1] [])) _
    exact X11.returnOut hx Bd.returns (hb hby d3_20) hr
  · show Q3 Z a1 h0 n0 _ T11.heap _
    rw [e11]
    exact ⟨_, _, _, _, rfl, N11, K11, fk12, fk13, fk14, Fw11, fk15, fk16, fk17, sz_b2, sz_b6, ne_b2_b6⟩
theorem d5_0 : decode prog_41_method_2_code 0 = .ok (.aload_n 0, 1) := by decide +kernel
theorem d5_1 : decode prog_41_method_2_code 1 = .ok (.aload_n 1, 1) := by decide +kernel
theorem d5_2 : decode prog_41_method_2_code 2 = .ok (.putfield 16, 3) := by decide +kernel
theorem d5_5 : decode prog_41_method_2_code 5 = .ok (.aload_n 0, 1) := by decide +kernel
theorem d5_6 : decode prog_41_method_2_code 6 = .ok (.iconst 0, 1) := by decide +kernel
theorem d5_7 : decode prog_41_method_2_code 7 = .ok (.putfield 20, 3) := by decide +kernel
theorem d5_10 : decode prog_41_method_2_code 10 = .ok (.iload_n 2, 1) := by decide +kernel
theorem d5_11 : decode prog_41_method_2_code 11 = .ok (.istore 4, 2) := by decide +kernel
theorem d5_13 : decode prog_41_method_2_code 13 = .ok (.iload 4, 2) := by decide +kernel
theorem d5_15 : decode prog_41_method_2_code 15 = .ok (.iload_n 3, 1) := by decide +kernel
theorem d5_16 : decode prog_41_method_2_code 16 = .ok (.if_icmp .ge 139, 3) := by decide +kernel
theorem d5_19 : decode prog_41_method_2_code 19 = .ok (.iload 4, 2) := by decide +kernel
theorem d5_21 : decode prog_41_method_2_code 21 = .ok (.iload_n 3, 1) := by decide +kernel
theorem d5_22 : decode prog_41_method_2_code 22 = .ok (.if_icmp .ge 19, 3) := by decide +kernel
theorem d5_25 : decode prog_41_method_2_code 25 = .ok (.aload_n 1, 1) := by decide +kernel
theorem d5_26 : decode prog_41_method_2_code 26 = .ok (.iload 4, 2) := by decide +kernel
theorem d5_28 : decode prog_41_method_2_code 28 = .ok (.baload, 1) := by decide +kernel
theorem d5_29 : decode prog_41_method_2_code 29 = .ok (.invokestatic 24, 3) := by decide +kernel
theorem d5_32 : decode prog_41_method_2_code 32 = .ok (.ifCond .eq 9, 3) := by decide +kernel
theorem d5_35 : decode prog_41_method_2_code 35 = .ok (.iinc 4 1, 3) := by decide +kernel
theorem d5_38 : decode prog_41_method_2_code 38 = .ok (.goto (-19), 3) := by decide +kernel
theorem d5_41 : decode prog_41_method_2_code 41 = .ok (.iload 4, 2) := by decide +kernel
theorem d5_43 : decode prog_41_method_2_code 43 = .ok (.istore 5, 2) := by decide +kernel
theorem d5_45 : decode prog_41_method_2_code 45 = .ok (.iload 4, 2) := by decide +kernel
theorem d5_47 : decode prog_41_method_2_code 47 = .ok (.iload_n 3, 1) := by decide +kernel
theorem d5_48 : decode prog_41_method_2_code 48 = .ok (.if_icmp .ge 19, 3) := by decide +kernel
theorem d5_51 : decode prog_41_method_2_code 51 = .ok (.aload_n 1, 1) := by decide +kernel
theorem d5_52 : decode prog_41_method_2_code 52 = .ok (.iload 4, 2) := by decide +kernel
theorem d5_54 : decode prog_41_method_2_code 54 = .ok (.baload, 1) := by decide +kernel
theorem d5_55 : decode prog_41_method_2_code 55 = .ok (.invokestatic 24, 3) := by decide +kernel
theorem d5_58 : decode prog_41_method_2_code 58 = .ok (.ifCond .ne 9, 3) := by decide +kernel
theorem d5_61 : decode prog_41_method_2_code 61 = .ok (.iinc 4 1, 3) := by decide +kernel
theorem d5_64 : decode prog_41_method_2_code 64 = .ok (.goto (-19), 3) := by decide +kernel
theorem d5_67 : decode prog_41_method_2_code 67 = .ok (.iload 4, 2) := by decide +kernel
theorem d5_69 : decode prog_41_method_2_code 69 = .ok (.iload 5, 2) := by decide +kernel
theorem d5_71 : decode prog_41_method_2_code 71 = .ok (.if_icmp .le 81, 3) := by decide +kernel
theorem d5_74 : decode prog_41_method_2_code 74 = .ok (.aload_n 0, 1) := by decide +kernel
theorem d5_75 : decode prog_41_method_2_code 75 = .ok (.getfield 20, 3) := by decide +kernel
theorem d5_78 : decode prog_41_method_2_code 78 = .ok (.aload_n 0, 1) := by decide +kernel
theorem d5_79 : decode prog_41_method_2_code 79 = .ok (.getfield 7, 3) := by decide +kernel
theorem d5_82 : decode prog_41_method_2_code 82 = .ok (.arraylength, 1) := by decide +kernel
theorem d5_83 : decode prog_41_method_2_code 83 = .ok (.if_icmp .ne 37, 3) := by decide +kernel
theorem d5_120 : decode prog_41_method_2_code 120 = .ok (.aload_n 0, 1) := by decide +kernel
theorem d5_121 : decode prog_41_method_2_code 121 = .ok (.getfield 7, 3) := by decide +kernel
theorem d5_124 : decode prog_41_method_2_code 124 = .ok (.aload_n 0, 1) := by decide +kernel
theorem d5_125 : decode prog_41_method_2_code 125 = .ok (.getfield 20, 3) := by decide +kernel
theorem d5_128 : decode prog_41_method_2_code 128 = .ok (.iload 5, 2) := by decide +kernel
theorem d5_130 : decode prog_41_method_2_code 130 = .ok (.iastore, 1) := by decide +kernel
theorem d5_131 : decode prog_41_method_2_code 131 = .ok (.aload_n 0, 1) := by decide +kernel
theorem d5_132 : decode prog_41_method_2_code 132 = .ok (.getfield 13, 3) := by decide +kernel
theorem d5_135 : decode prog_41_method_2_code 135 = .ok (.aload_n 0, 1) := by decide +kernel
theorem d5_136 : decode prog_41_method_2_code 136 = .ok (.getfield 20, 3) := by decide +kernel
theorem d5_139 : decode prog_41_method_2_code 139 = .ok (.iload 4, 2) := by decide +kernel
theorem d5_141 : decode prog_41_method_2_code 141 = .ok (.iastore, 1) := by decide +kernel
theorem d5_142 : decode prog_41_method_2_code 142 = .ok (.aload_n 0, 1) := by decide +kernel
theorem d5_143 : decode prog_41_method_2_code 143 = .ok (.dup, 1) := by decide +kernel
theorem d5_144 : decode prog_41_method_2_code 144 = .ok (.getfield 20, 3) := by decide +kernel
theorem d5_147 : decode prog_41_method_2_code 147 = .ok (.iconst 1, 1) := by decide +kernel
theorem d5_148 : decode prog_41_method_2_code 148 = .ok (.iadd, 1) := by decide +kernel
theorem d5_149 : decode prog_41_method_2_code 149 = .ok (.putfield 20, 3) := by decide +kernel
theorem d5_152 : decode prog_41_method_2_code 152 = .ok (.goto (-139), 3) := by decide +kernel
theorem d5_155 : decode prog_41_method_2_code 155 = .ok (.return_, 1) := by decide +kernel
theorem ef_5_0_5 (m : MethodId) (x0 : Addr) (x1 : Addr) : entryFrame m #[(.ref x0), (.ref x1), (.int (0 : Int32)), (.int (5 : Int32))] 6 = mkF m 0 #[.val (.ref x0), .val (.ref x1), .val (.int (0 : Int32)), .val (.int (5 : Int32)), .unset, .unset] [] := by first | (simp [entryFrame, mkF, argsToLocals, Value.category]; done) | rfl
def Q5_0_5 (Z : State) (a1 : Addr) (a2 : Addr) (s1 s2 : Addr) (k1 k2 kl : ClassId) (x0 : Int32) (x1 : Int32) (x2 : Int32) (x3 : Int32) (x4 : Int32) (x5 : Int32) (x6 : Int32) (h0 : Heap) (n0 : Nat) (v : Option Value) (h : Heap) (L : List Loc) : Prop := v = none ∧ Fr n0 L ∧ Keep h0 h [a1, s1, s2] ∧ Exa Z h a1 "com/example/tidemine/tidemine/TextFormat$Tokens" ∧ Fld Z h a1 "com/example/tidemine/tidemine/TextFormat$Tokens" "line" "[B" (.ref a2) ∧ Fld Z h a1 "com/example/tidemine/tidemine/TextFormat$Tokens" "starts" "[I" (.ref s1) ∧ Fld Z h a1 "com/example/tidemine/tidemine/TextFormat$Tokens" "ends" "[I" (.ref s2) ∧ Arv Z h s1 k1 .int (16 : Int32) [(.int (0 : Int32)), (.int (4 : Int32)), (.int (0 : Int32)), (.int (0 : Int32)), (.int (0 : Int32)), (.int (0 : Int32)), (.int (0 : Int32)), (.int (0 : Int32)), (.int (0 : Int32)), (.int (0 : Int32)), (.int (0 : Int32)), (.int (0 : Int32)), (.int (0 : Int32)), (.int (0 : Int32)), (.int (0 : Int32)), (.int (0 : Int32))] (.int (0 : Int32)) ∧ Arv Z h s2 k2 .int (16 : Int32) [(.int (3 : Int32)), (.int (5 : Int32)), (.int (0 : Int32)), (.int (0 : Int32)), (.int (0 : Int32)), (.int (0 : Int32)), (.int (0 : Int32)), (.int (0 : Int32)), (.int (0 : Int32)), (.int (0 : Int32)), (.int (0 : Int32)), (.int (0 : Int32)), (.int (0 : Int32)), (.int (0 : Int32)), (.int (0 : Int32)), (.int (0 : Int32))] (.int (0 : Int32))
set_option maxRecDepth 65536 in
set_option maxHeartbeats 40000000 in
theorem rm5_0_5 (l : Launch) (Z : State) (a0 : Array Value) (hw : ∀ d ∈ tables_1, d.before a0 Z = true) (ws : List Jvm.Cond) (a1 : Addr) (a2 : Addr) (s1 s2 : Addr) (k1 k2 kl : ClassId) (x0 : Int32) (x1 : Int32) (x2 : Int32) (x3 : Int32) (x4 : Int32) (x5 : Int32) (x6 : Int32) (h0 : Heap) (n0 : Nat) (Z0 : n0 ≤ h0.size) (E_a1 : Exa Z h0 a1 "com/example/tidemine/tidemine/TextFormat$Tokens") (g_a1 : n0 ≤ a1) (g_s1 : n0 ≤ s1) (g_s2 : n0 ≤ s2) (F_line : Fld Z h0 a1 "com/example/tidemine/tidemine/TextFormat$Tokens" "line" "[B" .null) (F_starts : Fld Z h0 a1 "com/example/tidemine/tidemine/TextFormat$Tokens" "starts" "[I" (.ref s1)) (F_ends : Fld Z h0 a1 "com/example/tidemine/tidemine/TextFormat$Tokens" "ends" "[I" (.ref s2)) (F_count : Fld Z h0 a1 "com/example/tidemine/tidemine/TextFormat$Tokens" "count" "I" (.int (0 : Int32))) (V_1 : Arv Z h0 s1 k1 .int (16 : Int32) [(.int (0 : Int32)), (.int (0 : Int32)), (.int (0 : Int32)), (.int (0 : Int32)), (.int (0 : Int32)), (.int (0 : Int32)), (.int (0 : Int32)), (.int (0 : Int32)), (.int (0 : Int32)), (.int (0 : Int32)), (.int (0 : Int32)), (.int (0 : Int32)), (.int (0 : Int32)), (.int (0 : Int32)), (.int (0 : Int32)), (.int (0 : Int32))] (.int (0 : Int32))) (V_2 : Arv Z h0 s2 k2 .int (16 : Int32) [(.int (0 : Int32)), (.int (0 : Int32)), (.int (0 : Int32)), (.int (0 : Int32)), (.int (0 : Int32)), (.int (0 : Int32)), (.int (0 : Int32)), (.int (0 : Int32)), (.int (0 : Int32)), (.int (0 : Int32)), (.int (0 : Int32)), (.int (0 : Int32)), (.int (0 : Int32)), (.int (0 : Int32)), (.int (0 : Int32)), (.int (0 : Int32))] (.int (0 : Int32))) (V_l : Arv Z h0 a2 kl .byte (7 : Int32) [(.int x0), (.int x1), (.int x2), (.int x3), (.int x4), (.int x5), (.int x6)] (.int (0 : Int32))) (ne_a1_a2 : a1 ≠ a2) (ne_a1_s1 : a1 ≠ s1) (ne_a1_s2 : a1 ≠ s2) (ne_a2_s1 : a2 ≠ s1) (ne_a2_s2 : a2 ≠ s2) (ne_s1_s2 : s1 ≠ s2) (hx0 : (own_sep x0) = (0 : Int32)) (hx1 : (own_sep x1) = (0 : Int32)) (hx2 : (own_sep x2) = (0 : Int32)) (hx3 : ¬ (own_sep x3) = (0 : Int32)) (hx4 : (own_sep x4) = (0 : Int32)) (hx5 : (own_sep x5) = (0 : Int32)) (hx6 : (own_sep x6) = (0 : Int32)) :
    MetFree l (⟨"com/example/tidemine/tidemine/TextFormat$Tokens", "split", "([BII)V"⟩ : MethodName) (head1 (Jvm.Cond.code (⟨"com/example/tidemine/tidemine/TextFormat$Tokens", "split", "([BII)V"⟩ : MethodName) prog_41_method_2_code 6 none :: ws) ({ frames := 1, cells := 0, slots := 0, locals := 12 } : Room)) (fun a U => a = #[(.ref a1), (.ref a2), (.int (0 : Int32)), (.int (5 : Int32))] ∧ Z.Warmed39 U.vm ∧ U.heap = h0) (fun _ _ _ _ _ => True) (fun _ U o U' => ∃ v L, o = .returned v ∧ Q5_0_5 Z a1 a2 s1 s2 k1 k2 kl x0 x1 x2 x3 x4 x5 x6 h0 n0 v U'.heap L ∧ FrameEnd U o U' L ({ frames := 1, cells := 0, slots := 0, locals := 12 } : Room).cells ({ frames := 1, cells := 0, slots := 0, locals := 12 } : Room).slots) := by
  refine MetFree.of_bodySF (plainFor_of_name pn_2) hisR ?_
  intro p e s m args below meth c s₁ Bd hml0 hP hK
  obtain ⟨rfl, hZ, hh⟩ := hP
  have hx := Bd.exec
  have hby := Bd.bytes
  have hml : c.maxLocals = 6 := hml0
  have hown : s.vm.findClass "com/example/tidemine/tidemine/TextFormat$Tokens" = some m.cls := findClass_of_methodNamed Bd.named
  have hnm := (name_of_methodNamed Bd.named Bd.method).1
  have X0 : Stand p l e ({ frames := 1, cells := 0, slots := 0, locals := 12 } : Room) s m #[(.ref a1), (.ref a2), (.int (0 : Int32)), (.int (5 : Int32))] below meth c s₁ [] 0 0 := Stand.of_body Bd
  have e0 : s₁.heap = h0 := by rw [← hh, Bd.state]; rfl
  have N0 := Fr.nil n0
  have K0 := Keep.refl h0 [a1, s1, s2]
  have pre0 : ∀ t, Steps p.tables e below (s₁.setTop (mkF m 0 #[.val (.ref a1), .val (.ref a2), .val (.int (0 : Int32)), .val (.int (5 : Int32)), .unset, .unset] [])) t → Steps p.tables e below (s₁.setTop (entryFrame m #[(.ref a1), (.ref a2), (.int (0 : Int32)), (.int (5 : Int32))] 6)) t := fun t k => castTop (ef_5_0_5 m a1 a2) k
  obtain ⟨T1, h1, X1, e1, W1, st1⟩ := putF X0 hx hZ hown (host := "") (Or.inl (hw _ (List.mem_of_getElem? (i := 28) rfl))) Via.refl e0 F_line E_a1 (Or.inl (hw _ (List.mem_of_getElem? (i := 29) rfl))) (hw _ (List.mem_of_getElem? (i := 10) rfl)) (ty := (.array .byte)) (by decide) rfl rfl (g := (mkF m 2 #[vR a1, vR a2, vI 0, vI 5, .unset, .unset] [iR a2, iR a1])) rfl rfl (hb hby d5_2)
  have Fw1 := F_line.same W1
  have K1 : Keep h0 h1 [a1, s1, s2] := K0.wr W1 (Or.inl (List.mem_of_getElem? (i := 0) rfl))
  have N1 := Fr.snoc X1 N0 g_a1
  have fk2 := (F_count.other W1 (Or.inr (slot_ne (Or.inl (hw _ (List.mem_of_getElem? (i := 31) rfl))) (Or.inl (hw _ (List.mem_of_getElem? (i := 29) rfl))) (by decide) (t := .int) (t' := (.array .byte)) (by decide) (by decide))))
  have fk3 := (E_a1.wr W1)
  obtain ⟨T4, h4, X4, e4, W4, st4⟩ := putF X1 hx hZ hown (host := "") (Or.inl (hw _ (List.mem_of_getElem? (i := 30) rfl))) Via.refl e1 fk2 fk3 (Or.inl (hw _ (List.mem_of_getElem? (i := 31) rfl))) (hw _ (List.mem_of_getElem? (i := 10) rfl)) (ty := .int) (by decide) rfl rfl (g := (mkF m 7 #[vR a1, vR a2, vI 0, vI 5, .unset, .unset] [iI 0, iR a1])) rfl rfl (hb hby d5_7)
  have Fw4 := fk2.same W4
  have K4 : Keep h0 h4 [a1, s1, s2] := K1.wr W4 (Or.inl (List.mem_of_getElem? (i := 0) rfl))
  have N4 := Fr.snoc X4 N1 g_a1
  have fk5 := ((V_l.other W1 (Ne.symm ne_a1_a2)).other W4 (Ne.symm ne_a1_a2))
  obtain ⟨cl6, Ar6, q6, S6, M6, H6, G6⟩ := id fk5
  have hin7 : ¬ ((0 : Int32) < 0 ∨ cl6.slots.size ≤ ((0 : Int32)).toNatClampNeg) := inb_of S6 ⟨by decide, by decide⟩
  have hat8 : cl6.slots[((0 : Int32)).toNatClampNeg]? = some (.int x0) := Has.at H6 hin7 rfl
  obtain ⟨_, _, ⟨T9, L9, k9, n9⟩, -, X9, ⟨Lc9, hQ9, l9, y9, z9⟩, st9⟩ := callSN X4 hx (y := (⟨"com/example/tidemine/tidemine/TextFormat", "isSeparator", "(B)Z"⟩ : MethodName)) hown (Cond.methodLinkNest_wide hZ (hw _ (List.mem_of_getElem? (i := 32) rfl))) (mvT hZ (hw _ (List.mem_of_getElem? (i := 33) rfl))) (mvT hZ (hw _ (List.mem_of_getElem? (i := 34) rfl))) (mvT hZ (hw _ (List.mem_of_getElem? (i := 35) rfl))) (by decide) (backOf (W := 0) (rm6 l Z a0 hw [] x0 h4 ) hZ (hw _ (List.mem_of_getElem? (i := 35) rfl)) (hw _ (List.mem_of_getElem? (i := 34) rfl)) (by decide) (by decide)) (g := (mkF m 29 #[vR a1, vR a2, vI 0, vI 5, vI 0, .unset] [iI x0])) rfl (by rw [hml]; rfl) (argsL := [(.int x0)]) (rest := []) (lenOf pd_0 rfl) rfl (by show 2 * 0 + _ ≤ _; exact Nat.le_of_eq rfl) (hb hby d5_29) (fun _ _ => ⟨rfl, e4, (by decide : 0 + 0 ≤ _), (by decide : 0 + 0 ≤ _)⟩)
  dsimp only [Pt.U, Pt.locs, Pt.cells, Pt.slots] at X9 l9 y9 z9 st9 hQ9
  subst l9 y9 z9
  obtain ⟨rfl, rfl, e9⟩ := hQ9
  try rw [List.append_nil] at X9
  have hin10 : ¬ ((0 : Int32) < 0 ∨ cl6.slots.size ≤ ((0 : Int32)).toNatClampNeg) := inb_of S6 ⟨by decide, by decide⟩
  have hat11 : cl6.slots[((0 : Int32)).toNatClampNeg]? = some (.int x0) := Has.at H6 hin10 rfl
  obtain ⟨_, _, ⟨T12, L12, k12, n12⟩, -, X12, ⟨Lc12, hQ12, l12, y12, z12⟩, st12⟩ := callSN X9 hx (y := (⟨"com/example/tidemine/tidemine/TextFormat", "isSeparator", "(B)Z"⟩ : MethodName)) hown (Cond.methodLinkNest_wide hZ (hw _ (List.mem_of_getElem? (i := 32) rfl))) (mvT hZ (hw _ (List.mem_of_getElem? (i := 33) rfl))) (mvT hZ (hw _ (List.mem_of_getElem? (i := 34) rfl))) (mvT hZ (hw _ (List.mem_of_getElem? (i := 35) rfl))) (by decide) (backOf (W := 0) (rm6 l Z a0 hw [] x0 h4 ) hZ (hw _ (List.mem_of_getElem? (i := 35) rfl)) (hw _ (List.mem_of_getElem? (i := 34) rfl)) (by decide) (by decide)) (g := (mkF m 55 #[vR a1, vR a2, vI 0, vI 5, vI 0, vI 0] [iI x0])) rfl (by rw [hml]; rfl) (argsL := [(.int x0)]) (rest := []) (lenOf pd_0 rfl) rfl (by show 2 * 0 + _ ≤ _; exact Nat.le_of_eq rfl) (hb hby d5_55) (fun _ _ => ⟨rfl, e9, (by decide : 0 + 0 ≤ _), (by decide : 0 + 0 ≤ _)⟩)
  dsimp only [Pt.U, Pt.locs, Pt.cells, Pt.slots] at X12 l12 y12 z12 st12 hQ12
  subst l12 y12 z12
  obtain ⟨rfl, rfl, e12⟩ := hQ12
  try rw [List.append_nil] at X12
  have hin13 : ¬ ((1 : Int32) < 0 ∨ cl6.slots.size ≤ ((1 : Int32)).toNatClampNeg) := inb_of S6 ⟨by decide, by decide⟩
  have hat14 : cl6.slots[((1 : Int32)).toNatClampNeg]? = some (.int x1) := Has.at H6 hin13 rfl
  obtain ⟨_, _, ⟨T15, L15, k15, n15⟩, -, X15, ⟨Lc15, hQ15, l15, y15, z15⟩, st15⟩ := callSN X12 hx (y := (⟨"com/example/tidemine/tidemine/TextFormat", "isSeparator", "(B)Z"⟩ : MethodName)) hown (Cond.methodLinkNest_wide hZ (hw _ (List.mem_of_getElem? (i := 32) rfl))) (mvT hZ (hw _ (List.mem_of_getElem? (i := 33) rfl))) (mvT hZ (hw _ (List.mem_of_getElem? (i := 34) rfl))) (mvT hZ (hw _ (List.mem_of_getElem? (i := 35) rfl))) (by decide) (backOf (W := 0) (rm6 l Z a0 hw [] x1 h4 ) hZ (hw _ (List.mem_of_getElem? (i := 35) rfl)) (hw _ (List.mem_of_getElem? (i := 34) rfl)) (by decide) (by decide)) (g := (mkF m 55 #[vR a1, vR a2, vI 0, vI 5, vI 1, vI 0] [iI x1])) rfl (by rw [hml]; rfl) (argsL := [(.int x1)]) (rest := []) (lenOf pd_0 rfl) rfl (by show 2 * 0 + _ ≤ _; exact Nat.le_of_eq rfl) (hb hby d5_55) (fun _ _ => ⟨rfl, e12, (by decide : 0 + 0 ≤ _), (by decide : 0 + 0 ≤ _)⟩)
  dsimp only [Pt.U, Pt.locs, Pt.cells, Pt.slots] at X15 l15 y15 z15 st15 hQ15
  subst l15 y15 z15
  obtain ⟨rfl, rfl, e15⟩ := hQ15
  try rw [List.append_nil] at X15
  have hin16 : ¬ ((2 : Int32) < 0 ∨ cl6.slots.size ≤ ((2 : Int32)).toNatClampNeg) := inb_of S6 ⟨by decide, by decide⟩
  have hat17 : cl6.slots[((2 : Int32)).toNatClampNeg]? = some (.int x2) := Has.at H6 hin16 rfl
  obtain ⟨_, _, ⟨T18, L18, k18, n18⟩, -, X18, ⟨Lc18, hQ18, l18, y18, z18⟩, st18⟩ := callSN X15 hx (y := (⟨"com/example/tidemine/tidemine/TextFormat", "isSeparator", "(B)Z"⟩ : MethodName)) hown (Cond.methodLinkNest_wide hZ (hw _ (List.mem_of_getElem? (i := 32) rfl))) (mvT hZ (hw _ (List.mem_of_getElem? (i := 33) rfl))) (mvT hZ (hw _ (List.mem_of_getElem? (i := 34) rfl))) (mvT hZ (hw _ (List.mem_of_getElem? (i := 35) rfl))) (by decide) (backOf (W := 0) (rm6 l Z a0 hw [] x2 h4 ) hZ (hw _ (List.mem_of_getElem? (i := 35) rfl)) (hw _ (List.mem_of_getElem? (i := 34) rfl)) (by decide) (by decide)) (g := (mkF m 55 #[vR a1, vR a2, vI 0, vI 5, vI 2, vI 0] [iI x2])) rfl (by rw [hml]; rfl) (argsL := [(.int x2)]) (rest := []) (lenOf pd_0 rfl) rfl (by show 2 * 0 + _ ≤ _; exact Nat.le_of_eq rfl) (hb hby d5_55) (fun _ _ => ⟨rfl, e15, (by decide : 0 + 0 ≤ _), (by decide : 0 + 0 ≤ _)⟩)
  dsimp only [Pt.U, Pt.locs, Pt.cells, Pt.slots] at X18 l18 y18 z18 st18 hQ18
  subst l18 y18 z18
  obtain ⟨rfl, rfl, e18⟩ := hQ18
  try rw [List.append_nil] at X18
  have hin19 : ¬ ((3 : Int32) < 0 ∨ cl6.slots.size ≤ ((3 : Int32)).toNatClampNeg) := inb_of S6 ⟨by decide, by decide⟩
  have hat20 : cl6.slots[((3 : Int32)).toNatClampNeg]? = some (.int x3) := Has.at H6 hin19 rfl
  obtain ⟨_, _, ⟨T21, L21, k21, n21⟩, -, X21, ⟨Lc21, hQ21, l21, y21, z21⟩, st21⟩ := callSN X18 hx (y := (⟨"com/example/tidemine/tidemine/TextFormat", "isSeparator", "(B)Z"⟩ : MethodName)) hown (Cond.methodLinkNest_wide hZ (hw _ (List.mem_of_getElem? (i := 32) rfl))) (mvT hZ (hw _ (List.mem_of_getElem? (i := 33) rfl))) (mvT hZ (hw _ (List.mem_of_getElem? (i := 34) rfl))) (mvT hZ (hw _ (List.mem_of_getElem? (i := 35) rfl))) (by decide) (backOf (W := 0) (rm6 l Z a0 hw [] x3 h4 ) hZ (hw _ (List.mem_of_getElem? (i := 35) rfl)) (hw _ (List.mem_of_getElem? (i := 34) rfl)) (by decide) (by decide)) (g := (mkF m 55 #[vR a1, vR a2, vI 0, vI 5, vI 3, vI 0] [iI x3])) rfl (by rw [hml]; rfl) (argsL := [(.int x3)]) (rest := []) (lenOf pd_0 rfl) rfl (by show 2 * 0 + _ ≤ _; exact Nat.le_of_eq rfl) (hb hby d5_55) (fun _ _ => ⟨rfl, e18, (by decide : 0 + 0 ≤ _), (by decide : 0 + 0 ≤ _)⟩)
  dsimp only [Pt.U, Pt.locs, Pt.cells, Pt.slots] at X21 l21 y21 z21 st21 hQ21
  subst l21 y21 z21
  obtain ⟨rfl, rfl, e21⟩ := hQ21
  try rw [List.append_nil] at X21
  obtain ⟨T22, X22, e22, st22⟩ := getF X21 hx hZ hown (host := "") (Or.inl (hw _ (List.mem_of_getElem? (i := 30) rfl))) Via.refl e21 Fw4 (g := (mkF m 75 #[vR a1, vR a2, vI 0, vI 5, vI 3, vI 0] [iR a1])) rfl rfl (hb hby d5_75)
  have fk23 := ((F_starts.other W1 (Or.inr (slot_ne (Or.inl (hw _ (List.mem_of_getElem? (i := 20) rfl))) (Or.inl (hw _ (List.mem_of_getElem? (i := 29) rfl))) (by decide) (t := (.array .int)) (t' := (.array .byte)) (by decide) (by decide)))).other W4 (Or.inr (slot_ne (Or.inl (hw _ (List.mem_of_getElem? (i := 20) rfl))) (Or.inl (hw _ (List.mem_of_getElem? (i := 31) rfl))) (by decide) (t := (.array .int)) (t' := .int) (by decide) (by decide))))
  obtain ⟨T24, X24, e24, st24⟩ := getF X22 hx hZ hown (host := "") (Or.inl (hw _ (List.mem_of_getElem? (i := 19) rfl))) Via.refl e22 fk23 (g := (mkF m 79 #[vR a1, vR a2, vI 0, vI 5, vI 3, vI 0] [iR a1, iI 0])) rfl rfl (hb hby d5_79)
  have fk25 := ((V_1.other W1 (Ne.symm ne_a1_s1)).other W4 (Ne.symm ne_a1_s1))
  obtain ⟨cl26, Ar26, q26, S26, M26, H26, G26⟩ := id fk25
  obtain ⟨T27, X27, e27, st27⟩ := getF X24 hx hZ hown (host := "") (Or.inl (hw _ (List.mem_of_getElem? (i := 19) rfl))) Via.refl e24 fk23 (g := (mkF m 121 #[vR a1, vR a2, vI 0, vI 5, vI 3, vI 0] [iR a1])) rfl rfl (hb hby d5_121)
  obtain ⟨T28, X28, e28, st28⟩ := getF X27 hx hZ hown (host := "") (Or.inl (hw _ (List.mem_of_getElem? (i := 30) rfl))) Via.refl e27 Fw4 (g := (mkF m 125 #[vR a1, vR a2, vI 0, vI 5, vI 3, vI 0] [iR a1, iR s1])) rfl rfl (hb hby d5_125)
  have hin29 : ¬ ((0 : Int32) < 0 ∨ cl26.slots.size ≤ ((0 : Int32)).toNatClampNeg) := inb_of S26 ⟨by decide, by decide⟩
  obtain ⟨T30, h30, X30, e30, W30, st30⟩ := stI X28 hx hZ e28 Ar26 (j := (0 : Int32)) hin29 (g := (mkF m 130 #[vR a1, vR a2, vI 0, vI 5, vI 3, vI 0] [iI 0, iI 0, iR s1])) rfl rfl (hb hby d5_130)
  have V30 : Arv Z h30 s1 k1 .int (16 : Int32) [(.int (0 : Int32)), (.int (0 : Int32)), (.int (0 : Int32)), (.int (0 : Int32)), (.int (0 : Int32)), (.int (0 : Int32)), (.int (0 : Int32)), (.int (0 : Int32)), (.int (0 : Int32)), (.int (0 : Int32)), (.int (0 : Int32)), (.int (0 : Int32)), (.int (0 : Int32)), (.int (0 : Int32)), (.int (0 : Int32)), (.int (0 : Int32))] (.int (0 : Int32)) := Arv.set Ar26 q26 S26 M26 H26 G26 rfl W30 0 rfl (Nat.le_of_ble_eq_true rfl)
  have K30 : Keep h0 h30 [a1, s1, s2] := K4.wr W30 (Or.inl (List.mem_of_getElem? (i := 1) rfl))
  have N30 := Fr.snoc X30 N4 g_s1
  have fk31 := (((F_ends.other W1 (Or.inr (slot_ne (Or.inl (hw _ (List.mem_of_getElem? (i := 22) rfl))) (Or.inl (hw _ (List.mem_of_getElem? (i := 29) rfl))) (by decide) (t := (.array .int)) (t' := (.array .byte)) (by decide) (by decide)))).other W4 (Or.inr (slot_ne (Or.inl (hw _ (List.mem_of_getElem? (i := 22) rfl))) (Or.inl (hw _ (List.mem_of_getElem? (i := 31) rfl))) (by decide) (t := (.array .int)) (t' := .int) (by decide) (by decide)))).other W30 (Or.inl ne_a1_s1))
  obtain ⟨T32, X32, e32, st32⟩ := getF X30 hx hZ hown (host := "") (Or.inl (hw _ (List.mem_of_getElem? (i := 21) rfl))) Via.refl e30 fk31 (g := (mkF m 132 #[vR a1, vR a2, vI 0, vI 5, vI 3, vI 0] [iR a1])) rfl rfl (hb hby d5_132)
  have fk33 := (Fw4.other W30 (Or.inl ne_a1_s1))
  obtain ⟨T34, X34, e34, st34⟩ := getF X32 hx hZ hown (host := "") (Or.inl (hw _ (List.mem_of_getElem? (i := 30) rfl))) Via.refl e32 fk33 (g := (mkF m 136 #[vR a1, vR a2, vI 0, vI 5, vI 3, vI 0] [iR a1, iR s2])) rfl rfl (hb hby d5_136)
  have fk35 := (((V_2.other W1 (Ne.symm ne_a1_s2)).other W4 (Ne.symm ne_a1_s2)).other W30 (Ne.symm ne_s1_s2))
  obtain ⟨cl36, Ar36, q36, S36, M36, H36, G36⟩ := id fk35
  have hin37 : ¬ ((0 : Int32) < 0 ∨ cl36.slots.size ≤ ((0 : Int32)).toNatClampNeg) := inb_of S36 ⟨by decide, by decide⟩
  obtain ⟨T38, h38, X38, e38, W38, st38⟩ := stI X34 hx hZ e34 Ar36 (j := (0 : Int32)) hin37 (g := (mkF m 141 #[vR a1, vR a2, vI 0, vI 5, vI 3, vI 0] [iI 3, iI 0, iR s2])) rfl rfl (hb hby d5_141)
  have V38 : Arv Z h38 s2 k2 .int (16 : Int32) [(.int (3 : Int32)), (.int (0 : Int32)), (.int (0 : Int32)), (.int (0 : Int32)), (.int (0 : Int32)), (.int (0 : Int32)), (.int (0 : Int32)), (.int (0 : Int32)), (.int (0 : Int32)), (.int (0 : Int32)), (.int (0 : Int32)), (.int (0 : Int32)), (.int (0 : Int32)), (.int (0 : Int32)), (.int (0 : Int32)), (.int (0 : Int32))] (.int (0 : Int32)) := Arv.set Ar36 q36 S36 M36 H36 G36 rfl W38 0 rfl (Nat.le_of_ble_eq_true rfl)
  have K38 : Keep h0 h38 [a1, s1, s2] := K30.wr W38 (Or.inl (List.mem_of_getElem? (i := 2) rfl))
  have N38 := Fr.snoc X38 N30 g_s2
  have fk39 := (fk33.other W38 (Or.inl ne_a1_s2))
  obtain ⟨T40, X40, e40, st40⟩ := getF X38 hx hZ hown (host := "") (Or.inl (hw _ (List.mem_of_getElem? (i := 30) rfl))) Via.refl e38 fk39 (g := (mkF m 144 #[vR a1, vR a2, vI 0, vI 5, vI 3, vI 0] [iR a1, iR a1])) rfl rfl (hb hby d5_144)
  have fk41 := (((fk3.wr W4).wr W30).wr W38)
  obtain ⟨T42, h42, X42, e42, W42, st42⟩ := putF X40 hx hZ hown (host := "") (Or.inl (hw _ (List.mem_of_getElem? (i := 30) rfl))) Via.refl e40 fk39 fk41 (Or.inl (hw _ (List.mem_of_getElem? (i := 31) rfl))) (hw _ (List.mem_of_getElem? (i := 10) rfl)) (ty := .int) (by decide) rfl rfl (g := (mkF m 149 #[vR a1, vR a2, vI 0, vI 5, vI 3, vI 0] [iI 1, iR a1])) rfl rfl (hb hby d5_149)
  have Fw42 := fk39.same W42
  have K42 : Keep h0 h42 [a1, s1, s2] := K38.wr W42 (Or.inl (List.mem_of_getElem? (i := 0) rfl))
  have N42 := Fr.snoc X42 N38 g_a1
  have fk43 := (((fk5.other W30 ne_a2_s1).other W38 ne_a2_s2).other W42 (Ne.symm ne_a1_a2))
  obtain ⟨cl44, Ar44, q44, S44, M44, H44, G44⟩ := id fk43
  have hin45 : ¬ ((3 : Int32) < 0 ∨ cl44.slots.size ≤ ((3 : Int32)).toNatClampNeg) := inb_of S44 ⟨by decide, by decide⟩
  have hat46 : cl44.slots[((3 : Int32)).toNatClampNeg]? = some (.int x3) := Has.at H44 hin45 rfl
  obtain ⟨_, _, ⟨T47, L47, k47, n47⟩, -, X47, ⟨Lc47, hQ47, l47, y47, z47⟩, st47⟩ := callSN X42 hx (y := (⟨"com/example/tidemine/tidemine/TextFormat", "isSeparator", "(B)Z"⟩ : MethodName)) hown (Cond.methodLinkNest_wide hZ (hw _ (List.mem_of_getElem? (i := 32) rfl))) (mvT hZ (hw _ (List.mem_of_getElem? (i := 33) rfl))) (mvT hZ (hw _ (List.mem_of_getElem? (i := 34) rfl))) (mvT hZ (hw _ (List.mem_of_getElem? (i := 35) rfl))) (by decide) (backOf (W := 0) (rm6 l Z a0 hw [] x3 h42 ) hZ (hw _ (List.mem_of_getElem? (i := 35) rfl)) (hw _ (List.mem_of_getElem? (i := 34) rfl)) (by decide) (by decide)) (g := (mkF m 29 #[vR a1, vR a2, vI 0, vI 5, vI 3, vI 0] [iI x3])) rfl (by rw [hml]; rfl) (argsL := [(.int x3)]) (rest := []) (lenOf pd_0 rfl) rfl (by show 2 * 0 + _ ≤ _; exact Nat.le_of_eq rfl) (hb hby d5_29) (fun _ _ => ⟨rfl, e42, (by decide : 0 + 0 ≤ _), (by decide : 0 + 0 ≤ _)⟩)
  dsimp only [Pt.U, Pt.locs, Pt.cells, Pt.slots] at X47 l47 y47 z47 st47 hQ47
  subst l47 y47 z47
  obtain ⟨rfl, rfl, e47⟩ := hQ47
  try rw [List.append_nil] at X47
  have hin48 : ¬ ((4 : Int32) < 0 ∨ cl44.slots.size ≤ ((4 : Int32)).toNatClampNeg) := inb_of S44 ⟨by decide, by decide⟩
  have hat49 : cl44.slots[((4 : Int32)).toNatClampNeg]? = some (.int x4) := Has.at H44 hin48 rfl
  obtain ⟨_, _, ⟨T50, L50, k50, n50⟩, -, X50, ⟨Lc50, hQ50, l50, y50, z50⟩, st50⟩ := callSN X47 hx (y := (⟨"com/example/tidemine/tidemine/TextFormat", "isSeparator", "(B)Z"⟩ : MethodName)) hown (Cond.methodLinkNest_wide hZ (hw _ (List.mem_of_getElem? (i := 32) rfl))) (mvT hZ (hw _ (List.mem_of_getElem? (i := 33) rfl))) (mvT hZ (hw _ (List.mem_of_getElem? (i := 34) rfl))) (mvT hZ (hw _ (List.mem_of_getElem? (i := 35) rfl))) (by decide) (backOf (W := 0) (rm6 l Z a0 hw [] x4 h42 ) hZ (hw _ (List.mem_of_getElem? (i := 35) rfl)) (hw _ (List.mem_of_getElem? (i := 34) rfl)) (by decide) (by decide)) (g := (mkF m 29 #[vR a1, vR a2, vI 0, vI 5, vI 4, vI 0] [iI x4])) rfl (by rw [hml]; rfl) (argsL := [(.int x4)]) (rest := []) (lenOf pd_0 rfl) rfl (by show 2 * 0 + _ ≤ _; exact Nat.le_of_eq rfl) (hb hby d5_29) (fun _ _ => ⟨rfl, e47, (by decide : 0 + 0 ≤ _), (by decide : 0 + 0 ≤ _)⟩)
  dsimp only [Pt.U, Pt.locs, Pt.cells, Pt.slots] at X50 l50 y50 z50 st50 hQ50
  subst l50 y50 z50
  obtain ⟨rfl, rfl, e50⟩ := hQ50
  try rw [List.append_nil] at X50
  have hin51 : ¬ ((4 : Int32) < 0 ∨ cl44.slots.size ≤ ((4 : Int32)).toNatClampNeg) := inb_of S44 ⟨by decide, by decide⟩
  have hat52 : cl44.slots[((4 : Int32)).toNatClampNeg]? = some (.int x4) := Has.at H44 hin51 rfl
  obtain ⟨_, _, ⟨T53, L53, k53, n53⟩, -, X53, ⟨Lc53, hQ53, l53, y53, z53⟩, st53⟩ := callSN X50 hx (y := (⟨"com/example/tidemine/tidemine/TextFormat", "isSeparator", "(B)Z"⟩ : MethodName)) hown (Cond.methodLinkNest_wide hZ (hw _ (List.mem_of_getElem? (i := 32) rfl))) (mvT hZ (hw _ (List.mem_of_getElem? (i := 33) rfl))) (mvT hZ (hw _ (List.mem_of_getElem? (i := 34) rfl))) (mvT hZ (hw _ (List.mem_of_getElem? (i := 35) rfl))) (by decide) (backOf (W := 0) (rm6 l Z a0 hw [] x4 h42 ) hZ (hw _ (List.mem_of_getElem? (i := 35) rfl)) (hw _ (List.mem_of_getElem? (i := 34) rfl)) (by decide) (by decide)) (g := (mkF m 55 #[vR a1, vR a2, vI 0, vI 5, vI 4, vI 4] [iI x4])) rfl (by rw [hml]; rfl) (argsL := [(.int x4)]) (rest := []) (lenOf pd_0 rfl) rfl (by show 2 * 0 + _ ≤ _; exact Nat.le_of_eq rfl) (hb hby d5_55) (fun _ _ => ⟨rfl, e50, (by decide : 0 + 0 ≤ _), (by decide : 0 + 0 ≤ _)⟩)
  dsimp only [Pt.U, Pt.locs, Pt.cells, Pt.slots] at X53 l53 y53 z53 st53 hQ53
  subst l53 y53 z53
  obtain ⟨rfl, rfl, e53⟩ := hQ53
  try rw [List.append_nil] at X53
  obtain ⟨T54, X54, e54, st54⟩ := getF X53 hx hZ hown (host := "") (Or.inl (hw _ (List.mem_of_getElem? (i := 30) rfl))) Via.refl e53 Fw42 (g := (mkF m 75 #[vR a1, vR a2, vI 0, vI 5, vI 5, vI 4] [iR a1])) rfl rfl (hb hby d5_75)
  have fk55 := (((fk23.other W30 (Or.inl ne_a1_s1)).other W38 (Or.inl ne_a1_s2)).other W42 (Or.inr (slot_ne (Or.inl (hw _ (List.mem_of_getElem? (i := 20) rfl))) (Or.inl (hw _ (List.mem_of_getElem? (i := 31) rfl))) (by decide) (t := (.array .int)) (t' := .int) (by decide) (by decide))))
  obtain ⟨T56, X56, e56, st56⟩ := getF X54 hx hZ hown (host := "") (Or.inl (hw _ (List.mem_of_getElem? (i := 19) rfl))) Via.refl e54 fk55 (g := (mkF m 79 #[vR a1, vR a2, vI 0, vI 5, vI 5, vI 4] [iR a1, iI 1])) rfl rfl (hb hby d5_79)
  have fk57 := ((V30.other W38 ne_s1_s2).other W42 (Ne.symm ne_a1_s1))
  obtain ⟨cl58, Ar58, q58, S58, M58, H58, G58⟩ := id fk57
  obtain ⟨T59, X59, e59, st59⟩ := getF X56 hx hZ hown (host := "") (Or.inl (hw _ (List.mem_of_getElem? (i := 19) rfl))) Via.refl e56 fk55 (g := (mkF m 121 #[vR a1, vR a2, vI 0, vI 5, vI 5, vI 4] [iR a1])) rfl rfl (hb hby d5_121)
  obtain ⟨T60, X60, e60, st60⟩ := getF X59 hx hZ hown (host := "") (Or.inl (hw _ (List.mem_of_getElem? (i := 30) rfl))) Via.refl e59 Fw42 (g := (mkF m 125 #[vR a1, vR a2, vI 0, vI 5, vI 5, vI 4] [iR a1, iR s1])) rfl rfl (hb hby d5_125)
  have hin61 : ¬ ((1 : Int32) < 0 ∨ cl58.slots.size ≤ ((1 : Int32)).toNatClampNeg) := inb_of S58 ⟨by decide, by decide⟩
  obtain ⟨T62, h62, X62, e62, W62, st62⟩ := stI X60 hx hZ e60 Ar58 (j := (1 : Int32)) hin61 (g := (mkF m 130 #[vR a1, vR a2, vI 0, vI 5, vI 5, vI 4] [iI 4, iI 1, iR s1])) rfl rfl (hb hby d5_130)
  have V62 : Arv Z h62 s1 k1 .int (16 : Int32) [(.int (0 : Int32)), (.int (4 : Int32)), (.int (0 : Int32)), (.int (0 : Int32)), (.int (0 : Int32)), (.int (0 : Int32)), (.int (0 : Int32)), (.int (0 : Int32)), (.int (0 : Int32)), (.int (0 : Int32)), (.int (0 : Int32)), (.int (0 : Int32)), (.int (0 : Int32)), (.int (0 : Int32)), (.int (0 : Int32)), (.int (0 : Int32))] (.int (0 : Int32)) := Arv.set Ar58 q58 S58 M58 H58 G58 rfl W62 1 rfl (Nat.le_of_ble_eq_true rfl)
  have K62 : Keep h0 h62 [a1, s1, s2] := K42.wr W62 (Or.inl (List.mem_of_getElem? (i := 1) rfl))
  have N62 := Fr.snoc X62 N42 g_s1
  have fk63 := (((fk31.other W38 (Or.inl ne_a1_s2)).other W42 (Or.inr (slot_ne (Or.inl (hw _ (List.mem_of_getElem? (i := 22) rfl))) (Or.inl (hw _ (List.mem_of_getElem? (i := 31) rfl))) (by decide) (t := (.array .int)) (t' := .int) (by decide) (by decide)))).other W62 (Or.inl ne_a1_s1))
  obtain ⟨T64, X64, e64, st64⟩ := getF X62 hx hZ hown (host := "") (Or.inl (hw _ (List.mem_of_getElem? (i := 21) rfl))) Via.refl e62 fk63 (g := (mkF m 132 #[vR a1, vR a2, vI 0, vI 5, vI 5, vI 4] [iR a1])) rfl rfl (hb hby d5_132)
  have fk65 := (Fw42.other W62 (Or.inl ne_a1_s1))
  obtain ⟨T66, X66, e66, st66⟩ := getF X64 hx hZ hown (host := "") (Or.inl (hw _ (List.mem_of_getElem? (i := 30) rfl))) Via.refl e64 fk65 (g := (mkF m 136 #[vR a1, vR a2, vI 0, vI 5, vI 5, vI 4] [iR a1, iR s2])) rfl rfl (hb hby d5_136)
  have fk67 := ((V38.other W42 (Ne.symm ne_a1_s2)).other W62 (Ne.symm ne_s1_s2))
  obtain ⟨cl68, Ar68, q68, S68, M68, H68, G68⟩ := id fk67
  have hin69 : ¬ ((1 : Int32) < 0 ∨ cl68.slots.size ≤ ((1 : Int32)).toNatClampNeg) := inb_of S68 ⟨by decide, by decide⟩
  obtain ⟨T70, h70, X70, e70, W70, st70⟩ := stI X66 hx hZ e66 Ar68 (j := (1 : Int32)) hin69 (g := (mkF m 141 #[vR a1, vR a2, vI 0, vI 5, vI 5, vI 4] [iI 5, iI 1, iR s2])) rfl rfl (hb hby d5_141)
  have V70 : Arv Z h70 s2 k2 .int (16 : Int32) [(.int (3 : Int32)), (.int (5 : Int32)), (.int (0 : Int32)), (.int (0 : Int32)), (.int (0 : Int32)), (.int (0 : Int32)), (.int (0 : Int32)), (.int (0 : Int32)), (.int (0 : Int32)), (.int (0 : Int32)), (.int (0 : Int32)), (.int (0 : Int32)), (.int (0 : Int32)), (.int (0 : Int32)), (.int (0 : Int32)), (.int (0 : Int32))] (.int (0 : Int32)) := Arv.set Ar68 q68 S68 M68 H68 G68 rfl W70 1 rfl (Nat.le_of_ble_eq_true rfl)
  have K70 : Keep h0 h70 [a1, s1, s2] := K62.wr W70 (Or.inl (List.mem_of_getElem? (i := 2) rfl))
  have N70 := Fr.snoc X70 N62 g_s2
  have fk71 := (fk65.other W70 (Or.inl ne_a1_s2))
  obtain ⟨T72, X72, e72, st72⟩ := getF X70 hx hZ hown (host := "") (Or.inl (hw _ (List.mem_of_getElem? (i := 30) rfl))) Via.refl e70 fk71 (g := (mkF m 144 #[vR a1, vR a2, vI 0, vI 5, vI 5, vI 4] [iR a1, iR a1])) rfl rfl (hb hby d5_144)
  have fk73 := (((fk41.wr W42).wr W62).wr W70)
  obtain ⟨T74, h74, X74, e74, W74, st74⟩ := putF X72 hx hZ hown (host := "") (Or.inl (hw _ (List.mem_of_getElem? (i := 30) rfl))) Via.refl e72 fk71 fk73 (Or.inl (hw _ (List.mem_of_getElem? (i := 31) rfl))) (hw _ (List.mem_of_getElem? (i := 10) rfl)) (ty := .int) (by decide) rfl rfl (g := (mkF m 149 #[vR a1, vR a2, vI 0, vI 5, vI 5, vI 4] [iI 2, iR a1])) rfl rfl (hb hby d5_149)
  have Fw74 := fk71.same W74
  have K74 : Keep h0 h74 [a1, s1, s2] := K70.wr W74 (Or.inl (List.mem_of_getElem? (i := 0) rfl))
  have N74 := Fr.snoc X74 N70 g_a1
  obtain ⟨fs, hr, hrun, hended, hW, hsame⟩ := X74.leave (v := none) (fun _ => rfl)
  have fk75 := (fk73.wr W74)
  have fk76 := (((((((Fw1.other W4 (Or.inr (slot_ne (Or.inl (hw _ (List.mem_of_getElem? (i := 29) rfl))) (Or.inl (hw _ (List.mem_of_getElem? (i := 31) rfl))) (by decide) (t := (.array .byte)) (t' := .int) (by decide) (by decide)))).other W30 (Or.inl ne_a1_s1)).other W38 (Or.inl ne_a1_s2)).other W42 (Or.inr (slot_ne (Or.inl (hw _ (List.mem_of_getElem? (i := 29) rfl))) (Or.inl (hw _ (List.mem_of_getElem? (i := 31) rfl))) (by decide) (t := (.array .byte)) (t' := .int) (by decide) (by decide)))).other W62 (Or.inl ne_a1_s1)).other W70 (Or.inl ne_a1_s2)).other W74 (Or.inr (slot_ne (Or.inl (hw _ (List.mem_of_getElem? (i := 29) rfl))) (Or.inl (hw _ (List.mem_of_getElem? (i := 31) rfl))) (by decide) (t := (.array .byte)) (t' := .int) (by decide) (by decide))))
  have fk77 := (((fk55.other W62 (Or.inl ne_a1_s1)).other W70 (Or.inl ne_a1_s2)).other W74 (Or.inr (slot_ne (Or.inl (hw _ (List.mem_of_getElem? (i := 20) rfl))) (Or.inl (hw _ (List.mem_of_getElem? (i := 31) rfl))) (by decide) (t := (.array .int)) (t' := .int) (by decide) (by decide))))
  have fk78 := ((fk63.other W70 (Or.inl ne_a1_s2)).other W74 (Or.inr (slot_ne (Or.inl (hw _ (List.mem_of_getElem? (i := 22) rfl))) (Or.inl (hw _ (List.mem_of_getElem? (i := 31) rfl))) (by decide) (t := (.array .int)) (t' := .int) (by decide) (by decide))))
  have fk79 := ((V62.other W70 ne_s1_s2).other W74 (Ne.symm ne_a1_s1))
  have fk80 := (V70.other W74 (Ne.symm ne_a1_s2))
  refine ⟨_, _, pre0 _ ?_, hrun, hended, _, _, rfl, ?_, ⟨_, rfl⟩, hW, hsame.mono (by decide) (by decide)⟩
  · show Steps _ _ _ (s₁.setTop (mkF m 0 #[vR a1, vR a2, vI 0, vI 5, .unset, .unset] [])) _
    refine XS.aloadN X0.here hx rfl (hb hby d5_0) rfl rfl ?_
    show Steps _ _ _ (s₁.setTop (mkF m 1 #[vR a1, vR a2, vI 0, vI 5, .unset, .unset] [iR a1])) _
    refine XS.aloadN X0.here hx rfl (hb hby d5_1) rfl rfl ?_
    show Steps _ _ _ (s₁.setTop (mkF m 2 #[vR a1, vR a2, vI 0, vI 5, .unset, .unset] [iR a2, iR a1])) _
    refine st1 _ ?_
    show Steps _ _ _ (T1.setTop (mkF m 5 #[vR a1, vR a2, vI 0, vI 5, .unset, .unset] [])) _
    refine XS.aloadN X1.here hx rfl (hb hby d5_5) rfl rfl ?_
    show Steps _ _ _ (T1.setTop (mkF m 6 #[vR a1, vR a2, vI 0, vI 5, .unset, .unset] [iR a1])) _
    refine XS.iconst X1.here hx rfl (hb hby d5_6) ?_
    show Steps _ _ _ (T1.setTop (mkF m 7 #[vR a1, vR a2, vI 0, vI 5, .unset, .unset] [iI 0, iR a1])) _
    refine st4 _ ?_
    show Steps _ _ _ (T4.setTop (mkF m 10 #[vR a1, vR a2, vI 0, vI 5, .unset, .unset] [])) _
    refine XS.iloadN X4.here hx rfl (hb hby d5_10) rfl ?_
    show Steps _ _ _ (T4.setTop (mkF m 11 #[vR a1, vR a2, vI 0, vI 5, .unset, .unset] [iI 0])) _
    refine XS.istore X4.here hx rfl (hb hby d5_11) rfl (l' := #[vR a1, vR a2, vI 0, vI 5, vI 0, .unset]) rfl ?_
    show Steps _ _ _ (T4.setTop (mkF m 13 #[vR a1, vR a2, vI 0, vI 5, vI 0, .unset] [])) _
    refine XS.iload X4.here hx rfl (hb hby d5_13) rfl ?_
    show Steps _ _ _ (T4.setTop (mkF m 15 #[vR a1, vR a2, vI 0, vI 5, vI 0, .unset] [iI 0])) _
    refine XS.iloadN X4.here hx rfl (hb hby d5_15) rfl ?_
    show Steps _ _ _ (T4.setTop (mkF m 16 #[vR a1, vR a2, vI 0, vI 5, vI 0, .unset] [iI 5, iI 0])) _
    refine XS.icmpNo X4.here hx rfl (hb hby d5_16) rfl (tlt (by decide : (0 : Int32) < (5 : Int32))).2.1 ?_
    show Steps _ _ _ (T4.setTop (mkF m 19 #[vR a1, vR a2, vI 0, vI 5, vI 0, .unset] [])) _
    refine XS.iload X4.here hx rfl (hb hby d5_19) rfl ?_
    show Steps _ _ _ (T4.setTop (mkF m 21 #[vR a1, vR a2, vI 0, vI 5, vI 0, .unset] [iI 0])) _
    refine XS.iloadN X4.here hx rfl (hb hby d5_21) rfl ?_
    show Steps _ _ _ (T4.setTop (mkF m 22 #[vR a1, vR a2, vI 0, vI 5, vI 0, .unset] [iI 5, iI 0])) _
    refine XS.icmpNo X4.here hx rfl (hb hby d5_22) rfl (tlt (by decide : (0 : Int32) < (5 : Int32))).2.1 ?_
    show Steps _ _ _ (T4.setTop (mkF m 25 #[vR a1, vR a2, vI 0, vI 5, vI 0, .unset] [])) _
    refine XS.aloadN X4.here hx rfl (hb hby d5_25) rfl rfl ?_
    show Steps _ _ _ (T4.setTop (mkF m 26 #[vR a1, vR a2, vI 0, vI 5, vI 0, .unset] [iR a2])) _
    refine XS.iload X4.here hx rfl (hb hby d5_26) rfl ?_
    show Steps _ _ _ (T4.setTop (mkF m 28 #[vR a1, vR a2, vI 0, vI 5, vI 0, .unset] [iI 0, iR a2])) _
    refine X4.baloadBytes hx (j := (0 : Int32)) (v := (.int x0)) (by rw [e4]; exact Ar6.1) (State.isArrayOf_alike hZ.alike Ar6.2.1) Ar6.2.2 hin7 hat8 (g := (mkF m 28 #[vR a1, vR a2, vI 0, vI 5, vI 0, .unset] [iI 0, iR a2])) rfl rfl (hb hby d5_28) _ ?_
    show Steps _ _ _ (T4.setTop (mkF m 29 #[vR a1, vR a2, vI 0, vI 5, vI 0, .unset] [iI x0])) _
    refine st9.trans ?_
    show Steps _ _ _ (T9.setTop (mkF m 32 #[vR a1, vR a2, vI 0, vI 5, vI 0, .unset] [iI (own_sep x0)])) _
    refine XS.ifYes X9.here hx rfl (pc0 := 32) (pc' := 41) rfl (hb hby d5_32) rfl ((if0 _ _).trans (teq hx0).1) (by decide) (by decide) ?_
    show Steps _ _ _ (T9.setTop (mkF m 41 #[vR a1, vR a2, vI 0, vI 5, vI 0, .unset] [])) _
    refine XS.iload X9.here hx rfl (hb hby d5_41) rfl ?_
    show Steps _ _ _ (T9.setTop (mkF m 43 #[vR a1, vR a2, vI 0, vI 5, vI 0, .unset] [iI 0])) _
    refine XS.istore X9.here hx rfl (hb hby d5_43) rfl (l' := #[vR a1, vR a2, vI 0, vI 5, vI 0, vI 0]) rfl ?_
    show Steps _ _ _ (T9.setTop (mkF m 45 #[vR a1, vR a2, vI 0, vI 5, vI 0, vI 0] [])) _
    refine XS.iload X9.here hx rfl (hb hby d5_45) rfl ?_
    show Steps _ _ _ (T9.setTop (mkF m 47 #[vR a1, vR a2, vI 0, vI 5, vI 0, vI 0] [iI 0])) _
    refine XS.iloadN X9.here hx rfl (hb hby d5_47) rfl ?_
    show Steps _ _ _ (T9.setTop (mkF m 48 #[vR a1, vR a2, vI 0, vI 5, vI 0, vI 0] [iI 5, iI 0])) _
    refine XS.icmpNo X9.here hx rfl (hb hby d5_48) rfl (tlt (by decide : (0 : Int32) < (5 : Int32))).2.1 ?_
    show Steps _ _ _ (T9.setTop (mkF m 51 #[vR a1, vR a2, vI 0, vI 5, vI 0, vI 0] [])) _
    refine XS.aloadN X9.here hx rfl (hb hby d5_51) rfl rfl ?_
    show Steps _ _ _ (T9.setTop (mkF m 52 #[vR a1, vR a2, vI 0, vI 5, vI 0, vI 0] [iR a2])) _
    refine XS.iload X9.here hx rfl (hb hby d5_52) rfl ?_
    show Steps _ _ _ (T9.setTop (mkF m 54 #[vR a1, vR a2, vI 0, vI 5, vI 0, vI 0] [iI 0, iR a2])) _
    refine X9.baloadBytes hx (j := (0 : Int32)) (v := (.int x0)) (by rw [e9]; exact Ar6.1) (State.isArrayOf_alike hZ.alike Ar6.2.1) Ar6.2.2 hin10 hat11 (g := (mkF m 54 #[vR a1, vR a2, vI 0, vI 5, vI 0, vI 0] [iI 0, iR a2])) rfl rfl (hb hby d5_54) _ ?_
    show Steps _ _ _ (T9.setTop (mkF m 55 #[vR a1, vR a2, vI 0, vI 5, vI 0, vI 0] [iI x0])) _
    refine st12.trans ?_
    show Steps _ _ _ (T12.setTop (mkF m 58 #[vR a1, vR a2, vI 0, vI 5, vI 0, vI 0] [iI (own_sep x0)])) _
    refine XS.ifNo X12.here hx rfl (hb hby d5_58) rfl ((if0 _ _).trans (teq hx0).2) ?_
    show Steps _ _ _ (T12.setTop (mkF m 61 #[vR a1, vR a2, vI 0, vI 5, vI 0, vI 0] [])) _
    refine XS.iinc X12.here hx rfl (hb hby d5_61) rfl (l' := #[vR a1, vR a2, vI 0, vI 5, vI ((0 : Int32) + (1 : Int32)), vI 0]) rfl ?_
    rw [(by decide : ((0 : Int32) + (1 : Int32)) = (1 : Int32))]
    show Steps _ _ _ (T12.setTop (mkF m 64 #[vR a1, vR a2, vI 0, vI 5, vI 1, vI 0] [])) _
    refine XS.goto X12.here hx rfl (pc0 := 64) (pc' := 45) rfl (hb hby d5_64) (by decide) (by decide) ?_
    show Steps _ _ _ (T12.setTop (mkF m 45 #[vR a1, vR a2, vI 0, vI 5, vI 1, vI 0] [])) _
    refine XS.iload X12.here hx rfl (hb hby d5_45) rfl ?_
    show Steps _ _ _ (T12.setTop (mkF m 47 #[vR a1, vR a2, vI 0, vI 5, vI 1, vI 0] [iI 1])) _
    refine XS.iloadN X12.here hx rfl (hb hby d5_47) rfl ?_
    show Steps _ _ _ (T12.setTop (mkF m 48 #[vR a1, vR a2, vI 0, vI 5, vI 1, vI 0] [iI 5, iI 1])) _
    refine XS.icmpNo X12.here hx rfl (hb hby d5_48) rfl (tlt (by decide : (1 : Int32) < (5 : Int32))).2.1 ?_
    show Steps _ _ _ (T12.setTop (mkF m 51 #[vR a1, vR a2, vI 0, vI 5, vI 1, vI 0] [])) _
    refine XS.aloadN X12.here hx rfl (hb hby d5_51) rfl rfl ?_
    show Steps _ _ _ (T12.setTop (mkF m 52 #[vR a1, vR a2, vI 0, vI 5, vI 1, vI 0] [iR a2])) _
    refine XS.iload X12.here hx rfl (hb hby d5_52) rfl ?_
    show Steps _ _ _ (T12.setTop (mkF m 54 #[vR a1, vR a2, vI 0, vI 5, vI 1, vI 0] [iI 1, iR a2])) _
    refine X12.baloadBytes hx (j := (1 : Int32)) (v := (.int x1)) (by rw [e12]; exact Ar6.1) (State.isArrayOf_alike hZ.alike Ar6.2.1) Ar6.2.2 hin13 hat14 (g := (mkF m 54 #[vR a1, vR a2, vI 0, vI 5, vI 1, vI 0] [iI 1, iR a2])) rfl rfl (hb hby d5_54) _ ?_
    show Steps _ _ _ (T12.setTop (mkF m 55 #[vR a1, vR a2, vI 0, vI 5, vI 1, vI 0] [iI x1])) _
    refine st15.trans ?_
    show Steps _ _ _ (T15.setTop (mkF m 58 #[vR a1, vR a2, vI 0, vI 5, vI 1, vI 0] [iI (own_sep x1)])) _
    refine XS.ifNo X15.here hx rfl (hb hby d5_58) rfl ((if0 _ _).trans (teq hx1).2) ?_
    show Steps _ _ _ (T15.setTop (mkF m 61 #[vR a1, vR a2, vI 0, vI 5, vI 1, vI 0] [])) _
    refine XS.iinc X15.here hx rfl (hb hby d5_61) rfl (l' := #[vR a1, vR a2, vI 0, vI 5, vI ((1 : Int32) + (1 : Int32)), vI 0]) rfl ?_
    rw [(by decide : ((1 : Int32) + (1 : Int32)) = (2 : Int32))]
    show Steps _ _ _ (T15.setTop (mkF m 64 #[vR a1, vR a2, vI 0, vI 5, vI 2, vI 0] [])) _
    refine XS.goto X15.here hx rfl (pc0 := 64) (pc' := 45) rfl (hb hby d5_64) (by decide) (by decide) ?_
    show Steps _ _ _ (T15.setTop (mkF m 45 #[vR a1, vR a2, vI 0, vI 5, vI 2, vI 0] [])) _
    refine XS.iload X15.here hx rfl (hb hby d5_45) rfl ?_
    show Steps _ _ _ (T15.setTop (mkF m 47 #[vR a1, vR a2, vI 0, vI 5, vI 2, vI 0] [iI 2])) _
    refine XS.iloadN X15.here hx rfl (hb hby d5_47) rfl ?_
    show Steps _ _ _ (T15.setTop (mkF m 48 #[vR a1, vR a2, vI 0, vI 5, vI 2, vI 0] [iI 5, iI 2])) _
    refine XS.icmpNo X15.here hx rfl (hb hby d5_48) rfl (tlt (by decide : (2 : Int32) < (5 : Int32))).2.1 ?_
    show Steps _ _ _ (T15.setTop (mkF m 51 #[vR a1, vR a2, vI 0, vI 5, vI 2, vI 0] [])) _
    refine XS.aloadN X15.here hx rfl (hb hby d5_51) rfl rfl ?_
    show Steps _ _ _ (T15.setTop (mkF m 52 #[vR a1, vR a2, vI 0, vI 5, vI 2, vI 0] [iR a2])) _
    refine XS.iload X15.here hx rfl (hb hby d5_52) rfl ?_
    show Steps _ _ _ (T15.setTop (mkF m 54 #[vR a1, vR a2, vI 0, vI 5, vI 2, vI 0] [iI 2, iR a2])) _
    refine X15.baloadBytes hx (j := (2 : Int32)) (v := (.int x2)) (by rw [e15]; exact Ar6.1) (State.isArrayOf_alike hZ.alike Ar6.2.1) Ar6.2.2 hin16 hat17 (g := (mkF m 54 #[vR a1, vR a2, vI 0, vI 5, vI 2, vI 0] [iI 2, iR a2])) rfl rfl (hb hby d5_54) _ ?_
    show Steps _ _ _ (T15.setTop (mkF m 55 #[vR a1, vR a2, vI 0, vI 5, vI 2, vI 0] [iI x2])) _
    refine st18.trans ?_
    show Steps _ _ _ (T18.setTop (mkF m 58 #[vR a1, vR a2, vI 0, vI 5, vI 2, vI 0] [iI (own_sep x2)])) _
    refine XS.ifNo X18.here hx rfl (hb hby d5_58) rfl ((if0 _ _).trans (teq hx2).2) ?_
    show Steps _ _ _ (T18.setTop (mkF m 61 #[vR a1, vR a2, vI 0, vI 5, vI 2, vI 0] [])) _
    refine XS.iinc X18.here hx rfl (hb hby d5_61) rfl (l' := #[vR a1, vR a2, vI 0, vI 5, vI ((2 : Int32) + (1 : Int32)), vI 0]) rfl ?_
    rw [(by decide : ((2 : Int32) + (1 : Int32)) = (3 : Int32))]
    show Steps _ _ _ (T18.setTop (mkF m 64 #[vR a1, vR a2, vI 0, vI 5, vI 3, vI 0] [])) _
    refine XS.goto X18.here hx rfl (pc0 := 64) (pc' := 45) rfl (hb hby d5_64) (by decide) (by decide) ?_
    show Steps _ _ _ (T18.setTop (mkF m 45 #[vR a1, vR a2, vI 0, vI 5, vI 3, vI 0] [])) _
    refine XS.iload X18.here hx rfl (hb hby d5_45) rfl ?_
    show Steps _ _ _ (T18.setTop (mkF m 47 #[vR a1, vR a2, vI 0, vI 5, vI 3, vI 0] [iI 3])) _
    refine XS.iloadN X18.here hx rfl (hb hby d5_47) rfl ?_
    show Steps _ _ _ (T18.setTop (mkF m 48 #[vR a1, vR a2, vI 0, vI 5, vI 3, vI 0] [iI 5, iI 3])) _
    refine XS.icmpNo X18.here hx rfl (hb hby d5_48) rfl (tlt (by decide : (3 : Int32) < (5 : Int32))).2.1 ?_
    show Steps _ _ _ (T18.setTop (mkF m 51 #[vR a1, vR a2, vI 0, vI 5, vI 3, vI 0] [])) _
    refine XS.aloadN X18.here hx rfl (hb hby d5_51) rfl rfl ?_
    show Steps _ _ _ (T18.setTop (mkF m 52 #[vR a1, vR a2, vI 0, vI 5, vI 3, vI 0] [iR a2])) _
    refine XS.iload X18.here hx rfl (hb hby d5_52) rfl ?_
    show Steps _ _ _ (T18.setTop (mkF m 54 #[vR a1, vR a2, vI 0, vI 5, vI 3, vI 0] [iI 3, iR a2])) _
    refine X18.baloadBytes hx (j := (3 : Int32)) (v := (.int x3)) (by rw [e18]; exact Ar6.1) (State.isArrayOf_alike hZ.alike Ar6.2.1) Ar6.2.2 hin19 hat20 (g := (mkF m 54 #[vR a1, vR a2, vI 0, vI 5, vI 3, vI 0] [iI 3, iR a2])) rfl rfl (hb hby d5_54) _ ?_
    show Steps _ _ _ (T18.setTop (mkF m 55 #[vR a1, vR a2, vI 0, vI 5, vI 3, vI 0] [iI x3])) _
    refine st21.trans ?_
    show Steps _ _ _ (T21.setTop (mkF m 58 #[vR a1, vR a2, vI 0, vI 5, vI 3, vI 0] [iI (own_sep x3)])) _
    refine XS.ifYes X21.here hx rfl (pc0 := 58) (pc' := 67) rfl (hb hby d5_58) rfl ((if0 _ _).trans (feq hx3).2) (by decide) (by decide) ?_
    show Steps _ _ _ (T21.setTop (mkF m 67 #[vR a1, vR a2, vI 0, vI 5, vI 3, vI 0] [])) _
    refine XS.iload X21.here hx rfl (hb hby d5_67) rfl ?_
    show Steps _ _ _ (T21.setTop (mkF m 69 #[vR a1, vR a2, vI 0, vI 5, vI 3, vI 0] [iI 3])) _
    refine XS.iload X21.here hx rfl (hb hby d5_69) rfl ?_
    show Steps _ _ _ (T21.setTop (mkF m 71 #[vR a1, vR a2, vI 0, vI 5, vI 3, vI 0] [iI 0, iI 3])) _
    refine XS.icmpNo X21.here hx rfl (hb hby d5_71) rfl (tlt (by decide : (0 : Int32) < (3 : Int32))).2.2.2 ?_
    show Steps _ _ _ (T21.setTop (mkF m 74 #[vR a1, vR a2, vI 0, vI 5, vI 3, vI 0] [])) _
    refine XS.aloadN X21.here hx rfl (hb hby d5_74) rfl rfl ?_
    show Steps _ _ _ (T21.setTop (mkF m 75 #[vR a1, vR a2, vI 0, vI 5, vI 3, vI 0] [iR a1])) _
    refine st22 _ ?_
    show Steps _ _ _ (T22.setTop (mkF m 78 #[vR a1, vR a2, vI 0, vI 5, vI 3, vI 0] [iI 0])) _
    refine XS.aloadN X22.here hx rfl (hb hby d5_78) rfl rfl ?_
    show Steps _ _ _ (T22.setTop (mkF m 79 #[vR a1, vR a2, vI 0, vI 5, vI 3, vI 0] [iR a1, iI 0])) _
    refine st24 _ ?_
    show Steps _ _ _ (T24.setTop (mkF m 82 #[vR a1, vR a2, vI 0, vI 5, vI 3, vI 0] [iR s1, iI 0])) _
    refine X24.arraylength hx (by rw [e24]; exact Ar26.1) (State.isArrayOf_alike hZ.alike Ar26.2.1) (g := (mkF m 82 #[vR a1, vR a2, vI 0, vI 5, vI 3, vI 0] [iR s1, iI 0])) rfl rfl (hb hby d5_82) _ ?_
    rw [len_of S26 M26]
    show Steps _ _ _ (T24.setTop (mkF m 83 #[vR a1, vR a2, vI 0, vI 5, vI 3, vI 0] [iI 16, iI 0])) _
    refine XS.icmpYes X24.here hx rfl (pc0 := 83) (pc' := 120) rfl (hb hby d5_83) rfl (feq (by decide : ¬ ((0 : Int32) = (16 : Int32)))).2 (by decide) (by decide) ?_
    show Steps _ _ _ (T24.setTop (mkF m 120 #[vR a1, vR a2, vI 0, vI 5, vI 3, vI 0] [])) _
    refine XS.aloadN X24.here hx rfl (hb hby d5_120) rfl rfl ?_
    show Steps _ _ _ (T24.setTop (mkF m 121 #[vR a1, vR a2, vI 0, vI 5, vI 3, vI 0] [iR a1])) _
    refine st27 _ ?_
    show Steps _ _ _ (T27.setTop (mkF m 124 #[vR a1, vR a2, vI 0, vI 5, vI 3, vI 0] [iR s1])) _
    refine XS.aloadN X27.here hx rfl (hb hby d5_124) rfl rfl ?_
    show Steps _ _ _ (T27.setTop (mkF m 125 #[vR a1, vR a2, vI 0, vI 5, vI 3, vI 0] [iR a1, iR s1])) _
    refine st28 _ ?_
    show Steps _ _ _ (T28.setTop (mkF m 128 #[vR a1, vR a2, vI 0, vI 5, vI 3, vI 0] [iI 0, iR s1])) _
    refine XS.iload X28.here hx rfl (hb hby d5_128) rfl ?_
    show Steps _ _ _ (T28.setTop (mkF m 130 #[vR a1, vR a2, vI 0, vI 5, vI 3, vI 0] [iI 0, iI 0, iR s1])) _
    refine st30 _ ?_
    show Steps _ _ _ (T30.setTop (mkF m 131 #[vR a1, vR a2, vI 0, vI 5, vI 3, vI 0] [])) _
    refine XS.aloadN X30.here hx rfl (hb hby d5_131) rfl rfl ?_
    show Steps _ _ _ (T30.setTop (mkF m 132 #[vR a1, vR a2, vI 0, vI 5, vI 3, vI 0] [iR a1])) _
    refine st32 _ ?_
    show Steps _ _ _ (T32.setTop (mkF m 135 #[vR a1, vR a2, vI 0, vI 5, vI 3, vI 0] [iR s2])) _
    refine XS.aloadN X32.here hx rfl (hb hby d5_135) rfl rfl ?_
    show Steps _ _ _ (T32.setTop (mkF m 136 #[vR a1, vR a2, vI 0, vI 5, vI 3, vI 0] [iR a1, iR s2])) _
    refine st34 _ ?_
    show Steps _ _ _ (T34.setTop (mkF m 139 #[vR a1, vR a2, vI 0, vI 5, vI 3, vI 0] [iI 0, iR s2])) _
    refine XS.iload X34.here hx rfl (hb hby d5_139) rfl ?_
    show Steps _ _ _ (T34.setTop (mkF m 141 #[vR a1, vR a2, vI 0, vI 5, vI 3, vI 0] [iI 3, iI 0, iR s2])) _
    refine st38 _ ?_
    show Steps _ _ _ (T38.setTop (mkF m 142 #[vR a1, vR a2, vI 0, vI 5, vI 3, vI 0] [])) _
    refine XS.aloadN X38.here hx rfl (hb hby d5_142) rfl rfl ?_
    show Steps _ _ _ (T38.setTop (mkF m 143 #[vR a1, vR a2, vI 0, vI 5, vI 3, vI 0] [iR a1])) _
    refine XS.dup X38.here hx rfl (hb hby d5_143) rfl rfl ?_
    show Steps _ _ _ (T38.setTop (mkF m 144 #[vR a1, vR a2, vI 0, vI 5, vI 3, vI 0] [iR a1, iR a1])) _
    refine st40 _ ?_
    show Steps _ _ _ (T40.setTop (mkF m 147 #[vR a1, vR a2, vI 0, vI 5, vI 3, vI 0] [iI 0, iR a1])) _
    refine XS.iconst X40.here hx rfl (hb hby d5_147) ?_
    show Steps _ _ _ (T40.setTop (mkF m 148 #[vR a1, vR a2, vI 0, vI 5, vI 3, vI 0] [iI 1, iI 0, iR a1])) _
    refine XS.iadd X40.here hx rfl (hb hby d5_148) rfl ?_
    rw [(by decide : ((0 : Int32) + (1 : Int32)) = (1 : Int32))]
    show Steps _ _ _ (T40.setTop (mkF m 149 #[vR a1, vR a2, vI 0, vI 5, vI 3, vI 0] [iI 1, iR a1])) _
    refine st42 _ ?_
    show Steps _ _ _ (T42.setTop (mkF m 152 #[vR a1, vR a2, vI 0, vI 5, vI 3, vI 0] [])) _
    refine XS.goto X42.here hx rfl (pc0 := 152) (pc' := 13) rfl (hb hby d5_152) (by decide) (by decide) ?_
    show Steps _ _ _ (T42.setTop (mkF m 13 #[vR a1, vR a2, vI 0, vI 5, vI 3, vI 0] [])) _
    refine XS.iload X42.here hx rfl (hb hby d5_13) rfl ?_
    show Steps _ _ _ (T42.setTop (mkF m 15 #[vR a1, vR a2, vI 0, vI 5, vI 3, vI 0] [iI 3])) _
    refine XS.iloadN X42.here hx rfl (hb hby d5_15) rfl ?_
    show Steps _ _ _ (T42.setTop (mkF m 16 #[vR a1, vR a2, vI 0, vI 5, vI 3, vI 0] [iI 5, iI 3])) _
    refine XS.icmpNo X42.here hx rfl (hb hby d5_16) rfl (tlt (by decide : (3 : Int32) < (5 : Int32))).2.1 ?_
    show Steps _ _ _ (T42.setTop (mkF m 19 #[vR a1, vR a2, vI 0, vI 5, vI 3, vI 0] [])) _
    refine XS.iload X42.here hx rfl (hb hby d5_19) rfl ?_
    show Steps _ _ _ (T42.setTop (mkF m 21 #[vR a1, vR a2, vI 0, vI 5, vI 3, vI 0] [iI 3])) _
    refine XS.iloadN X42.here hx rfl (hb hby d5_21) rfl ?_
    show Steps _ _ _ (T42.setTop (mkF m 22 #[vR a1, vR a2, vI 0, vI 5, vI 3, vI 0] [iI 5, iI 3])) _
    refine XS.icmpNo X42.here hx rfl (hb hby d5_22) rfl (tlt (by decide : (3 : Int32) < (5 : Int32))).2.1 ?_
    show Steps _ _ _ (T42.setTop (mkF m 25 #[vR a1, vR a2, vI 0, vI 5, vI 3, vI 0] [])) _
    refine XS.aloadN X42.here hx rfl (hb hby d5_25) rfl rfl ?_
    show Steps _ _ _ (T42.setTop (mkF m 26 #[vR a1, vR a2, vI 0, vI 5, vI 3, vI 0] [iR a2])) _
    refine XS.iload X42.here hx rfl (hb hby d5_26) rfl ?_
    show Steps _ _ _ (T42.setTop (mkF m 28 #[vR a1, vR a2, vI 0, vI 5, vI 3, vI 0] [iI 3, iR a2])) _
    refine X42.baloadBytes hx (j := (3 : Int32)) (v := (.int x3)) (by rw [e42]; exact Ar44.1) (State.isArrayOf_alike hZ.alike Ar44.2.1) Ar44.2.2 hin45 hat46 (g := (mkF m 28 #[vR a1, vR a2, vI 0, vI 5, vI 3, vI 0] [iI 3, iR a2])) rfl rfl (hb hby d5_28) _ ?_
    show Steps _ _ _ (T42.setTop (mkF m 29 #[vR a1, vR a2, vI 0, vI 5, vI 3, vI 0] [iI x3])) _
    refine st47.trans ?_
    show Steps _ _ _ (T47.setTop (mkF m 32 #[vR a1, vR a2, vI 0, vI 5, vI 3, vI 0] [iI (own_sep x3)])) _
    refine XS.ifNo X47.here hx rfl (hb hby d5_32) rfl ((if0 _ _).trans (feq hx3).1) ?_
    show Steps _ _ _ (T47.setTop (mkF m 35 #[vR a1, vR a2, vI 0, vI 5, vI 3, vI 0] [])) _
    refine XS.iinc X47.here hx rfl (hb hby d5_35) rfl (l' := #[vR a1, vR a2, vI 0, vI 5, vI ((3 : Int32) + (1 : Int32)), vI 0]) rfl ?_
    rw [(by decide : ((3 : Int32) + (1 : Int32)) = (4 : Int32))]
    show Steps _ _ _ (T47.setTop (mkF m 38 #[vR a1, vR a2, vI 0, vI 5, vI 4, vI 0] [])) _
    refine XS.goto X47.here hx rfl (pc0 := 38) (pc' := 19) rfl (hb hby d5_38) (by decide) (by decide) ?_
    show Steps _ _ _ (T47.setTop (mkF m 19 #[vR a1, vR a2, vI 0, vI 5, vI 4, vI 0] [])) _
    refine XS.iload X47.here hx rfl (hb hby d5_19) rfl ?_
    show Steps _ _ _ (T47.setTop (mkF m 21 #[vR a1, vR a2, vI 0, vI 5, vI 4, vI 0] [iI 4])) _
    refine XS.iloadN X47.here hx rfl (hb hby d5_21) rfl ?_
    show Steps _ _ _ (T47.setTop (mkF m 22 #[vR a1, vR a2, vI 0, vI 5, vI 4, vI 0] [iI 5, iI 4])) _
    refine XS.icmpNo X47.here hx rfl (hb hby d5_22) rfl (tlt (by decide : (4 : Int32) < (5 : Int32))).2.1 ?_
    show Steps _ _ _ (T47.setTop (mkF m 25 #[vR a1, vR a2, vI 0, vI 5, vI 4, vI 0] [])) _
    refine XS.aloadN X47.here hx rfl (hb hby d5_25) rfl rfl ?_
    show Steps _ _ _ (T47.setTop (mkF m 26 #[vR a1, vR a2, vI 0, vI 5, vI 4, vI 0] [iR a2])) _
    refine XS.iload X47.here hx rfl (hb hby d5_26) rfl ?_
    show Steps _ _ _ (T47.setTop (mkF m 28 #[vR a1, vR a2, vI 0, vI 5, vI 4, vI 0] [iI 4, iR a2])) _
    refine X47.baloadBytes hx (j := (4 : Int32)) (v := (.int x4)) (by rw [e47]; exact Ar44.1) (State.isArrayOf_alike hZ.alike Ar44.2.1) Ar44.2.2 hin48 hat49 (g := (mkF m 28 #[vR a1, vR a2, vI 0, vI 5, vI 4, vI 0] [iI 4, iR a2])) rfl rfl (hb hby d5_28) _ ?_
    show Steps _ _ _ (T47.setTop (mkF m 29 #[vR a1, vR a2, vI 0, vI 5, vI 4, vI 0] [iI x4])) _
    refine st50.trans ?_
    show Steps _ _ _ (T50.setTop (mkF m 32 #[vR a1, vR a2, vI 0, vI 5, vI 4, vI 0] [iI (own_sep x4)])) _
    refine XS.ifYes X50.here hx rfl (pc0 := 32) (pc' := 41) rfl (hb hby d5_32) rfl ((if0 _ _).trans (teq hx4).1) (by decide) (by decide) ?_
    show Steps _ _ _ (T50.setTop (mkF m 41 #[vR a1, vR a2, vI 0, vI 5, vI 4, vI 0] [])) _
    refine XS.iload X50.here hx rfl (hb hby d5_41) rfl ?_
    show Steps _ _ _ (T50.setTop (mkF m 43 #[vR a1, vR a2, vI 0, vI 5, vI 4, vI 0] [iI 4])) _
    refine XS.istore X50.here hx rfl (hb hby d5_43) rfl (l' := #[vR a1, vR a2, vI 0, vI 5, vI 4, vI 4]) rfl ?_
    show Steps _ _ _ (T50.setTop (mkF m 45 #[vR a1, vR a2, vI 0, vI 5, vI 4, vI 4] [])) _
    refine XS.iload X50.here hx rfl (hb hby d5_45) rfl ?_
    show Steps _ _ _ (T50.setTop (mkF m 47 #[vR a1, vR a2, vI 0, vI 5, vI 4, vI 4] [iI 4])) _
    refine XS.iloadN X50.here hx rfl (hb hby d5_47) rfl ?_
    show Steps _ _ _ (T50.setTop (mkF m 48 #[vR a1, vR a2, vI 0, vI 5, vI 4, vI 4] [iI 5, iI 4])) _
    refine XS.icmpNo X50.here hx rfl (hb hby d5_48) rfl (tlt (by decide : (4 : Int32) < (5 : Int32))).2.1 ?_
    show Steps _ _ _ (T50.setTop (mkF m 51 #[vR a1, vR a2, vI 0, vI 5, vI 4, vI 4] [])) _
    refine XS.aloadN X50.here hx rfl (hb hby d5_51) rfl rfl ?_
    show Steps _ _ _ (T50.setTop (mkF m 52 #[vR a1, vR a2, vI 0, vI 5, vI 4, vI 4] [iR a2])) _
    refine XS.iload X50.here hx rfl (hb hby d5_52) rfl ?_
    show Steps _ _ _ (T50.setTop (mkF m 54 #[vR a1, vR a2, vI 0, vI 5, vI 4, vI 4] [iI 4, iR a2])) _
    refine X50.baloadBytes hx (j := (4 : Int32)) (v := (.int x4)) (by rw [e50]; exact Ar44.1) (State.isArrayOf_alike hZ.alike Ar44.2.1) Ar44.2.2 hin51 hat52 (g := (mkF m 54 #[vR a1, vR a2, vI 0, vI 5, vI 4, vI 4] [iI 4, iR a2])) rfl rfl (hb hby d5_54) _ ?_
    show Steps _ _ _ (T50.setTop (mkF m 55 #[vR a1, vR a2, vI 0, vI 5, vI 4, vI 4] [iI x4])) _
    refine st53.trans ?_
    show Steps _ _ _ (T53.setTop (mkF m 58 #[vR a1, vR a2, vI 0, vI 5, vI 4, vI 4] [iI (own_sep x4)])) _
    refine XS.ifNo X53.here hx rfl (hb hby d5_58) rfl ((if0 _ _).trans (teq hx4).2) ?_
    show Steps _ _ _ (T53.setTop (mkF m 61 #[vR a1, vR a2, vI 0, vI 5, vI 4, vI 4] [])) _
    refine XS.iinc X53.here hx rfl (hb hby d5_61) rfl (l' := #[vR a1, vR a2, vI 0, vI 5, vI ((4 : Int32) + (1 : Int32)), vI 4]) rfl ?_
    rw [(by decide : ((4 : Int32) + (1 : Int32)) = (5 : Int32))]
    show Steps _ _ _ (T53.setTop (mkF m 64 #[vR a1, vR a2, vI 0, vI 5, vI 5, vI 4] [])) _
    refine XS.goto X53.here hx rfl (pc0 := 64) (pc' := 45) rfl (hb hby d5_64) (by decide) (by decide) ?_
    show Steps _ _ _ (T53.setTop (mkF m 45 #[vR a1, vR a2, vI 0, vI 5, vI 5, vI 4] [])) _
    refine XS.iload X53.here hx rfl (hb hby d5_45) rfl ?_
    show Steps _ _ _ (T53.setTop (mkF m 47 #[vR a1, vR a2, vI 0, vI 5, vI 5, vI 4] [iI 5])) _
    refine XS.iloadN X53.here hx rfl (hb hby d5_47) rfl ?_
    show Steps _ _ _ (T53.setTop (mkF m 48 #[vR a1, vR a2, vI 0, vI 5, vI 5, vI 4] [iI 5, iI 5])) _
    refine XS.icmpYes X53.here hx rfl (pc0 := 48) (pc' := 67) rfl (hb hby d5_48) rfl (flt (by decide : ¬ ((5 : Int32) < (5 : Int32)))).2.1 (by decide) (by decide) ?_
    show Steps _ _ _ (T53.setTop (mkF m 67 #[vR a1, vR a2, vI 0, vI 5, vI 5, vI 4] [])) _
    refine XS.iload X53.here hx rfl (hb hby d5_67) rfl ?_
    show Steps _ _ _ (T53.setTop (mkF m 69 #[vR a1, vR a2, vI 0, vI 5, vI 5, vI 4] [iI 5])) _
    refine XS.iload X53.here hx rfl (hb hby d5_69) rfl ?_
    show Steps _ _ _ (T53.setTop (mkF m 71 #[vR a1, vR a2, vI 0, vI 5, vI 5, vI 4] [iI 4, iI 5])) _
    refine XS.icmpNo X53.here hx rfl (hb hby d5_71) rfl (tlt (by decide : (4 : Int32) < (5 : Int32))).2.2.2 ?_
    show Steps _ _ _ (T53.setTop (mkF m 74 #[vR a1, vR a2, vI 0, vI 5, vI 5, vI 4] [])) _
    refine XS.aloadN X53.here hx rfl (hb hby d5_74) rfl rfl ?_
    show Steps _ _ _ (T53.setTop (mkF m 75 #[vR a1, vR a2, vI 0, vI 5, vI 5, vI 4] [iR a1])) _
    refine st54 _ ?_
    show Steps _ _ _ (T54.setTop (mkF m 78 #[vR a1, vR a2, vI 0, vI 5, vI 5, vI 4] [iI 1])) _
    refine XS.aloadN X54.here hx rfl (hb hby d5_78) rfl rfl ?_
    show Steps _ _ _ (T54.setTop (mkF m 79 #[vR a1, vR a2, vI 0, vI 5, vI 5, vI 4] [iR a1, iI 1])) _
    refine st56 _ ?_
    show Steps _ _ _ (T56.setTop (mkF m 82 #[vR a1, vR a2, vI 0, vI 5, vI 5, vI 4] [iR s1, iI 1])) _
    refine X56.arraylength hx (by rw [e56]; exact Ar58.1) (State.isArrayOf_alike hZ.alike Ar58.2.1) (g := (mkF m 82 #[vR a1, vR a2, vI 0, vI 5, vI 5, vI 4] [iR s1, iI 1])) rfl rfl (hb hby d5_82) _ ?_
    rw [len_of S58 M58]
    show Steps _ _ _ (T56.setTop (mkF m 83 #[vR a1, vR a2, vI 0, vI 5, vI 5, vI 4] [iI 16, iI 1])) _
    refine XS.icmpYes X56.here hx rfl (pc0 := 83) (pc' := 120) rfl (hb hby d5_83) rfl (feq (by decide : ¬ ((1 : Int32) = (16 : Int32)))).2 (by decide) (by decide) ?_
    show Steps _ _ _ (T56.setTop (mkF m 120 #[vR a1, vR a2, vI 0, vI 5, vI 5, vI 4] [])) _
    refine XS.aloadN X56.here hx rfl (hb hby d5_120) rfl rfl ?_
    show Steps _ _ _ (T56.setTop (mkF m 121 #[vR a1, vR a2, vI 0, vI 5, vI 5, vI 4] [iR a1])) _
    refine st59 _ ?_
    show Steps _ _ _ (T59.setTop (mkF m 124 #[vR a1, vR a2, vI 0, vI 5, vI 5, vI 4] [iR s1])) _
    refine XS.aloadN X59.here hx rfl (hb hby d5_124) rfl rfl ?_
    show Steps _ _ _ (T59.setTop (mkF m 125 #[vR a1, vR a2, vI 0, vI 5, vI 5, vI 4] [iR a1, iR s1])) _
    refine st60 _ ?_
    show Steps _ _ _ (T60.setTop (mkF m 128 #[vR a1, vR a2, vI 0, vI 5, vI 5, vI 4] [iI 1, iR s1])) _
    refine XS.iload X60.here hx rfl (hb hby d5_128) rfl ?_
    show Steps _ _ _ (T60.setTop (mkF m 130 #[vR a1, vR a2, vI 0, vI 5, vI 5, vI 4] [iI 4, iI 1, iR s1])) _
    refine st62 _ ?_
    show Steps _ _ _ (T62.setTop (mkF m 131 #[vR a1, vR a2, vI 0, vI 5, vI 5, vI 4] [])) _
    refine XS.aloadN X62.here hx rfl (hb hby d5_131) rfl rfl ?_
    show Steps _ _ _ (T62.setTop (mkF m 132 #[vR a1, vR a2, vI 0, vI 5, vI 5, vI 4] [iR a1])) _
    refine st64 _ ?_
    show Steps _ _ _ (T64.setTop (mkF m 135 #[vR a1, vR a2, vI 0, vI 5, vI 5, vI 4] [iR s2])) _
    refine XS.aloadN X64.here hx rfl (hb hby d5_135) rfl rfl ?_
    show Steps _ _ _ (T64.setTop (mkF m 136 #[vR a1, vR a2, vI 0, vI 5, vI 5, vI 4] [iR a1, iR s2])) _
    refine st66 _ ?_
    show Steps _ _ _ (T66.setTop (mkF m 139 #[vR a1, vR a2, vI 0, vI 5, vI 5, vI 4] [iI 1, iR s2])) _
    refine XS.iload X66.here hx rfl (hb hby d5_139) rfl ?_
    show Steps _ _ _ (T66.setTop (mkF m 141 #[vR a1, vR a2, vI 0, vI 5, vI 5, vI 4] [iI 5, iI 1, iR s2])) _
    refine st70 _ ?_
    show Steps _ _ _ (T70.setTop (mkF m 142 #[vR a1, vR a2, vI 0, vI 5, vI 5, vI 4] [])) _
    refine XS.aloadN X70.here hx rfl (hb hby d5_142) rfl rfl ?_
    show Steps _ _ _ (T70.setTop (mkF m 143 #[vR a1, vR a2, vI 0, vI 5, vI 5, vI 4] [iR a1])) _
    refine XS.dup X70.here hx rfl (hb hby d5_143) rfl rfl ?_
    show Steps _ _ _ (T70.setTop (mkF m 144 #[vR a1, vR a2, vI 0, vI 5, vI 5, vI 4] [iR a1, iR a1])) _
    refine st72 _ ?_
    show Steps _ _ _ (T72.setTop (mkF m 147 #[vR a1, vR a2, vI 0, vI 5, vI 5, vI 4] [iI 1, iR a1])) _
    refine XS.iconst X72.here hx rfl (hb hby d5_147) ?_
    show Steps _ _ _ (T72.setTop (mkF m 148 #[vR a1, vR a2, vI 0, vI 5, vI 5, vI 4] [iI 1, iI 1, iR a1])) _
    refine XS.iadd X72.here hx rfl (hb hby d5_148) rfl ?_
    rw [(by decide : ((1 : Int32) + (1 : Int32)) = (2 : Int32))]
    show Steps _ _ _ (T72.setTop (mkF m 149 #[vR a1, vR a2, vI 0, vI 5, vI 5, vI 4] [iI 2, iR a1])) _
    refine st74 _ ?_
    show Steps _ _ _ (T74.setTop (mkF m 152 #[vR a1, vR a2, vI 0, vI 5, vI 5, vI 4] [])) _
    refine XS.goto X74.here hx rfl (pc0 := 152) (pc' := 13) rfl (hb hby d5_152) (by decide) (by decide) ?_
    show Steps _ _ _ (T74.setTop (mkF m 13 #[vR a1, vR a2, vI 0, vI 5, vI 5, vI 4] [])) _
    refine XS.iload X74.here hx rfl (hb hby d5_13) rfl ?_
    show Steps _ _ _ (T74.setTop (mkF m 15 #[vR a1, vR a2, vI 0, vI 5, vI 5, vI 4] [iI 5])) _
    refine XS.iloadN X74.here hx rfl (hb hby d5_15) rfl ?_
    show Steps _ _ _ (T74.setTop (mkF m 16 #[vR a1, vR a2, vI 0, vI 5, vI 5, vI 4] [iI 5, iI 5])) _
    refine XS.icmpYes X74.here hx rfl (pc0 := 16) (pc' := 155) rfl (hb hby d5_16) rfl (flt (by decide : ¬ ((5 : Int32) < (5 : Int32)))).2.1 (by decide) (by decide) ?_
    show Steps _ _ _ (T74.setTop (mkF m 155 #[vR a1, vR a2, vI 0, vI 5, vI 5, vI 4] [])) _
    exact X74.returnOut hx Bd.returns (hb hby d5_155) hr
  · show Q5_0_5 Z a1 a2 s1 s2 k1 k2 kl x0 x1 x2 x3 x4 x5 x6 h0 n0 _ T74.heap _
    rw [e74]
    exact ⟨rfl, N74, K74, fk75, fk76, fk77, fk78, fk79, fk80⟩
theorem ef_5_0_6 (m : MethodId) (x0 : Addr) (x1 : Addr) : entryFrame m #[(.ref x0), (.ref x1), (.int (0 : Int32)), (.int (6 : Int32))] 6 = mkF m 0 #[.val (.ref x0), .val (.ref x1), .val (.int (0 : Int32)), .val (.int (6 : Int32)), .unset, .unset] [] := by first | (simp [entryFrame, mkF, argsToLocals, Value.category]; done) | rfl
def Q5_0_6 (Z : State) (a1 : Addr) (a2 : Addr) (s1 s2 : Addr) (k1 k2 kl : ClassId) (x0 : Int32) (x1 : Int32) (x2 : Int32) (x3 : Int32) (x4 : Int32) (x5 : Int32) (x6 : Int32) (h0 : Heap) (n0 : Nat) (v : Option Value) (h : Heap) (L : List Loc) : Prop := v = none ∧ Fr n0 L ∧ Keep h0 h [a1, s1, s2] ∧ Exa Z h a1 "com/example/tidemine/tidemine/TextFormat$Tokens" ∧ Fld Z h a1 "com/example/tidemine/tidemine/TextFormat$Tokens" "line" "[B" (.ref a2) ∧ Fld Z h a1 "com/example/tidemine/tidemine/TextFormat$Tokens" "starts" "[I" (.ref s1) ∧ Fld Z h a1 "com/example/tidemine/tidemine/TextFormat$Tokens" "ends" "[I" (.ref s2) ∧ Arv Z h s1 k1 .int (16 : Int32) [(.int (0 : Int32)), (.int (4 : Int32)), (.int (0 : Int32)), (.int (0 : Int32)), (.int (0 : Int32)), (.int (0 : Int32)), (.int (0 : Int32)), (.int (0 : Int32)), (.int (0 : Int32)), (.int (0 : Int32)), (.int (0 : Int32)), (.int (0 : Int32)), (.int (0 : Int32)), (.int (0 : Int32)), (.int (0 : Int32)), (.int (0 : Int32))] (.int (0 : Int32)) ∧ Arv Z h s2 k2 .int (16 : Int32) [(.int (3 : Int32)), (.int (6 : Int32)), (.int (0 : Int32)), (.int (0 : Int32)), (.int (0 : Int32)), (.int (0 : Int32)), (.int (0 : Int32)), (.int (0 : Int32)), (.int (0 : Int32)), (.int (0 : Int32)), (.int (0 : Int32)), (.int (0 : Int32)), (.int (0 : Int32)), (.int (0 : Int32)), (.int (0 : Int32)), (.int (0 : Int32))] (.int (0 : Int32))
set_option maxRecDepth 65536 in
set_option maxHeartbeats 40000000 in
theorem rm5_0_6 (l : Launch) (Z : State) (a0 : Array Value) (hw : ∀ d ∈ tables_1, d.before a0 Z = true) (ws : List Jvm.Cond) (a1 : Addr) (a2 : Addr) (s1 s2 : Addr) (k1 k2 kl : ClassId) (x0 : Int32) (x1 : Int32) (x2 : Int32) (x3 : Int32) (x4 : Int32) (x5 : Int32) (x6 : Int32) (h0 : Heap) (n0 : Nat) (Z0 : n0 ≤ h0.size) (E_a1 : Exa Z h0 a1 "com/example/tidemine/tidemine/TextFormat$Tokens") (g_a1 : n0 ≤ a1) (g_s1 : n0 ≤ s1) (g_s2 : n0 ≤ s2) (F_line : Fld Z h0 a1 "com/example/tidemine/tidemine/TextFormat$Tokens" "line" "[B" .null) (F_starts : Fld Z h0 a1 "com/example/tidemine/tidemine/TextFormat$Tokens" "starts" "[I" (.ref s1)) (F_ends : Fld Z h0 a1 "com/example/tidemine/tidemine/TextFormat$Tokens" "ends" "[I" (.ref s2)) (F_count : Fld Z h0 a1 "com/example/tidemine/tidemine/TextFormat$Tokens" "count" "I" (.int (0 : Int32))) (V_1 : Arv Z h0 s1 k1 .int (16 : Int32) [(.int (0 : Int32)), (.int (0 : Int32)), (.int (0 : Int32)), (.int (0 : Int32)), (.int (0 : Int32)), (.int (0 : Int32)), (.int (0 : Int32)), (.int (0 : Int32)), (.int (0 : Int32)), (.int (0 : Int32)), (.int (0 : Int32)), (.int (0 : Int32)), (.int (0 : Int32)), (.int (0 : Int32)), (.int (0 : Int32)), (.int (0 : Int32))] (.int (0 : Int32))) (V_2 : Arv Z h0 s2 k2 .int (16 : Int32) [(.int (0 : Int32)), (.int (0 : Int32)), (.int (0 : Int32)), (.int (0 : Int32)), (.int (0 : Int32)), (.int (0 : Int32)), (.int (0 : Int32)), (.int (0 : Int32)), (.int (0 : Int32)), (.int (0 : Int32)), (.int (0 : Int32)), (.int (0 : Int32)), (.int (0 : Int32)), (.int (0 : Int32)), (.int (0 : Int32)), (.int (0 : Int32))] (.int (0 : Int32))) (V_l : Arv Z h0 a2 kl .byte (7 : Int32) [(.int x0), (.int x1), (.int x2), (.int x3), (.int x4), (.int x5), (.int x6)] (.int (0 : Int32))) (ne_a1_a2 : a1 ≠ a2) (ne_a1_s1 : a1 ≠ s1) (ne_a1_s2 : a1 ≠ s2) (ne_a2_s1 : a2 ≠ s1) (ne_a2_s2 : a2 ≠ s2) (ne_s1_s2 : s1 ≠ s2) (hx0 : (own_sep x0) = (0 : Int32)) (hx1 : (own_sep x1) = (0 : Int32)) (hx2 : (own_sep x2) = (0 : Int32)) (hx3 : ¬ (own_sep x3) = (0 : Int32)) (hx4 : (own_sep x4) = (0 : Int32)) (hx5 : (own_sep x5) = (0 : Int32)) (hx6 : (own_sep x6) = (0 : Int32)) :
    MetFree l (⟨"com/example/tidemine/tidemine/TextFormat$Tokens", "split", "([BII)V"⟩ : MethodName) (head1 (Jvm.Cond.code (⟨"com/example/tidemine/tidemine/TextFormat$Tokens", "split", "([BII)V"⟩ : MethodName) prog_41_method_2_code 6 none :: ws) ({ frames := 1, cells := 0, slots := 0, locals := 12 } : Room)) (fun a U => a = #[(.ref a1), (.ref a2), (.int (0 : Int32)), (.int (6 : Int32))] ∧ Z.Warmed39 U.vm ∧ U.heap = h0) (fun _ _ _ _ _ => True) (fun _ U o U' => ∃ v L, o = .returned v ∧ Q5_0_6 Z a1 a2 s1 s2 k1 k2 kl x0 x1 x2 x3 x4 x5 x6 h0 n0 v U'.heap L ∧ FrameEnd U o U' L ({ frames := 1, cells := 0, slots := 0, locals := 12 } : Room).cells ({ frames := 1, cells := 0, slots := 0, locals := 12 } : Room).slots) := by
  refine MetFree.of_bodySF (plainFor_of_name pn_2) hisR ?_
  intro p e s m args below meth c s₁ Bd hml0 hP hK
  obtain ⟨rfl, hZ, hh⟩ := hP
  have hx := Bd.exec
  have hby := Bd.bytes
  have hml : c.maxLocals = 6 := hml0
  have hown : s.vm.findClass "com/example/tidemine/tidemine/TextFormat$Tokens" = some m.cls := findClass_of_methodNamed Bd.named
  have hnm := (name_of_methodNamed Bd.named Bd.method).1
  have X0 : Stand p l e ({ frames := 1, cells := 0, slots := 0, locals := 12 } : Room) s m #[(.ref a1), (.ref a2), (.int (0 : Int32)), (.int (6 : Int32))] below meth c s₁ [] 0 0 := Stand.of_body Bd
  have e0 : s₁.heap = h0 := by rw [← hh, Bd.state]; rfl
  have N0 := Fr.nil n0
  have K0 := Keep.refl h0 [a1, s1, s2]
  have pre0 : ∀ t, Steps p.tables e below (s₁.setTop (mkF m 0 #[.val (.ref a1), .val (.ref a2), .val (.int (0 : Int32)), .val (.int (6 : Int32)), .unset, .unset] [])) t → Steps p.tables e below (s₁.setTop (entryFrame m #[(.ref a1), (.ref a2), (.int (0 : Int32)), (.int (6 : Int32))] 6)) t := fun t k => castTop (ef_5_0_6 m a1 a2) k
  obtain ⟨T1, h1, X1, e1, W1, st1⟩ := putF X0 hx hZ hown (host := "") (Or.inl (hw _ (List.mem_of_getElem? (i := 28) rfl))) Via.refl e0 F_line E_a1 (Or.inl (hw _ (List.mem_of_getElem? (i := 29) rfl))) (hw _ (List.mem_of_getElem? (i := 10) rfl)) (ty := (.array .byte)) (by decide) rfl rfl (g := (mkF m 2 #[vR a1, vR a2, vI 0, vI 6, .unset, .unset] [iR a2, iR a1])) rfl rfl (hb hby d5_2)
  have Fw1 := F_line.same W1
  have K1 : Keep h0 h1 [a1, s1, s2] := K0.wr W1 (Or.inl (List.mem_of_getElem? (i := 0) rfl))
  have N1 := Fr.snoc X1 N0 g_a1
  have fk2 := (F_count.other W1 (Or.inr (slot_ne (Or.inl (hw _ (List.mem_of_getElem? (i := 31) rfl))) (Or.inl (hw _ (List.mem_of_getElem? (i := 29) rfl))) (by decide) (t := .int) (t' := (.array .byte)) (by decide) (by decide))))
  have fk3 := (E_a1.wr W1)
  obtain ⟨T4, h4, X4, e4, W4, st4⟩ := putF X1 hx hZ hown (host := "") (Or.inl (hw _ (List.mem_of_getElem? (i := 30) rfl))) Via.refl e1 fk2 fk3 (Or.inl (hw _ (List.mem_of_getElem? (i := 31) rfl))) (hw _ (List.mem_of_getElem? (i := 10) rfl)) (ty := .int) (by decide) rfl rfl (g := (mkF m 7 #[vR a1, vR a2, vI 0, vI 6, .unset, .unset] [iI 0, iR a1])) rfl rfl (hb hby d5_7)
  have Fw4 := fk2.same W4
  have K4 : Keep h0 h4 [a1, s1, s2] := K1.wr W4 (Or.inl (List.mem_of_getElem? (i := 0) rfl))
  have N4 := Fr.snoc X4 N1 g_a1
  have fk5 := ((V_l.other W1 (Ne.symm ne_a1_a2)).other W4 (Ne.symm ne_a1_a2))
  obtain ⟨cl6, Ar6, q6, S6, M6, H6, G6⟩ := id fk5
  have hin7 : ¬ ((0 : Int32) < 0 ∨ cl6.slots.size ≤ ((0 : Int32)).toNatClampNeg) := inb_of S6 ⟨by decide, by decide⟩
  have hat8 : cl6.slots[((0 : Int32)).toNatClampNeg]? = some (.int x0) := Has.at H6 hin7 rfl
  obtain ⟨_, _, ⟨T9, L9, k9, n9⟩, -, X9, ⟨Lc9, hQ9, l9, y9, z9⟩, st9⟩ := callSN X4 hx (y := (⟨"com/example/tidemine/tidemine/TextFormat", "isSeparator", "(B)Z"⟩ : MethodName)) hown (Cond.methodLinkNest_wide hZ (hw _ (List.mem_of_getElem? (i := 32) rfl))) (mvT hZ (hw _ (List.mem_of_getElem? (i := 33) rfl))) (mvT hZ (hw _ (List.mem_of_getElem? (i := 34) rfl))) (mvT hZ (hw _ (List.mem_of_getElem? (i := 35) rfl))) (by decide) (backOf (W := 0) (rm6 l Z a0 hw [] x0 h4 ) hZ (hw _ (List.mem_of_getElem? (i := 35) rfl)) (hw _ (List.mem_of_getElem? (i := 34) rfl)) (by decide) (by decide)) (g := (mkF m 29 #[vR a1, vR a2, vI 0, vI 6, vI 0, .unset] [iI x0])) rfl (by rw [hml]; rfl) (argsL := [(.int x0)]) (rest := []) (lenOf pd_0 rfl) rfl (by show 2 * 0 + _ ≤ _; exact Nat.le_of_eq rfl) (hb hby d5_29) (fun _ _ => ⟨rfl, e4, (by decide : 0 + 0 ≤ _), (by decide : 0 + 0 ≤ _)⟩)
  dsimp only [Pt.U, Pt.locs, Pt.cells, Pt.slots] at X9 l9 y9 z9 st9 hQ9
  subst l9 y9 z9
  obtain ⟨rfl, rfl, e9⟩ := hQ9
  try rw [List.append_nil] at X9
  have hin10 : ¬ ((0 : Int32) < 0 ∨ cl6.slots.size ≤ ((0 : Int32)).toNatClampNeg) := inb_of S6 ⟨by decide, by decide⟩
  have hat11 : cl6.slots[((0 : Int32)).toNatClampNeg]? = some (.int x0) := Has.at H6 hin10 rfl
  obtain ⟨_, _, ⟨T12, L12, k12, n12⟩, -, X12, ⟨Lc12, hQ12, l12, y12, z12⟩, st12⟩ := callSN X9 hx (y := (⟨"com/example/tidemine/tidemine/TextFormat", "isSeparator", "(B)Z"⟩ : MethodName)) hown (Cond.methodLinkNest_wide hZ (hw _ (List.mem_of_getElem? (i := 32) rfl))) (mvT hZ (hw _ (List.mem_of_getElem? (i := 33) rfl))) (mvT hZ (hw _ (List.mem_of_getElem? (i := 34) rfl))) (mvT hZ (hw _ (List.mem_of_getElem? (i := 35) rfl))) (by decide) (backOf (W := 0) (rm6 l Z a0 hw [] x0 h4 ) hZ (hw _ (List.mem_of_getElem? (i := 35) rfl)) (hw _ (List.mem_of_getElem? (i := 34) rfl)) (by decide) (by decide)) (g := (mkF m 55 #[vR a1, vR a2, vI 0, vI 6, vI 0, vI 0] [iI x0])) rfl (by rw [hml]; rfl) (argsL := [(.int x0)]) (rest := []) (lenOf pd_0 rfl) rfl (by show 2 * 0 + _ ≤ _; exact Nat.le_of_eq rfl) (hb hby d5_55) (fun _ _ => ⟨rfl, e9, (by decide : 0 + 0 ≤ _), (by decide : 0 + 0 ≤ _)⟩)
  dsimp only [Pt.U, Pt.locs, Pt.cells, Pt.slots] at X12 l12 y12 z12 st12 hQ12
  subst l12 y12 z12
  obtain ⟨rfl, rfl, e12⟩ := hQ12
  try rw [List.append_nil] at X12
  have hin13 : ¬ ((1 : Int32) < 0 ∨ cl6.slots.size ≤ ((1 : Int32)).toNatClampNeg) := inb_of S6 ⟨by decide, by decide⟩
  have hat14 : cl6.slots[((1 : Int32)).toNatClampNeg]? = some (.int x1) := Has.at H6 hin13 rfl
  obtain ⟨_, _, ⟨T15, L15, k15, n15⟩, -, X15, ⟨Lc15, hQ15, l15, y15, z15⟩, st15⟩ := callSN X12 hx (y := (⟨"com/example/tidemine/tidemine/TextFormat", "isSeparator", "(B)Z"⟩ : MethodName)) hown (Cond.methodLinkNest_wide hZ (hw _ (List.mem_of_getElem? (i := 32) rfl))) (mvT hZ (hw _ (List.mem_of_getElem? (i := 33) rfl))) (mvT hZ (hw _ (List.mem_of_getElem? (i := 34) rfl))) (mvT hZ (hw _ (List.mem_of_getElem? (i := 35) rfl))) (by decide) (backOf (W := 0) (rm6 l Z a0 hw [] x1 h4 ) hZ (hw _ (List.mem_of_getElem? (i := 35) rfl)) (hw _ (List.mem_of_getElem? (i := 34) rfl)) (by decide) (by decide)) (g := (mkF m 55 #[vR a1, vR a2, vI 0, vI 6, vI 1, vI 0] [iI x1])) rfl (by rw [hml]; rfl) (argsL := [(.int x1)]) (rest := []) (lenOf pd_0 rfl) rfl (by show 2 * 0 + _ ≤ _; exact Nat.le_of_eq rfl) (hb hby d5_55) (fun _ _ => ⟨rfl, e12, (by decide : 0 + 0 ≤ _), (by decide : 0 + 0 ≤ _)⟩)
  dsimp only [Pt.U, Pt.locs, Pt.cells, Pt.slots] at X15 l15 y15 z15 st15 hQ15
  subst l15 y15 z15
  obtain ⟨rfl, rfl, e15⟩ := hQ15
  try rw [List.append_nil] at X15
  have hin16 : ¬ ((2 : Int32) < 0 ∨ cl6.slots.size ≤ ((2 : Int32)).toNatClampNeg) := inb_of S6 ⟨by decide, by decide⟩
  have hat17 : cl6.slots[((2 : Int32)).toNatClampNeg]? = some (.int x2) := Has.at H6 hin16 rfl
  obtain ⟨_, _, ⟨T18, L18, k18, n18⟩, -, X18, ⟨Lc18, hQ18, l18, y18, z18⟩, st18⟩ := callSN X15 hx (y := (⟨"com/example/tidemine/tidemine/TextFormat", "isSeparator", "(B)Z"⟩ : MethodName)) hown (Cond.methodLinkNest_wide hZ (hw _ (List.mem_of_getElem? (i := 32) rfl))) (mvT hZ (hw _ (List.mem_of_getElem? (i := 33) rfl))) (mvT hZ (hw _ (List.mem_of_getElem? (i := 34) rfl))) (mvT hZ (hw _ (List.mem_of_getElem? (i := 35) rfl))) (by decide) (backOf (W := 0) (rm6 l Z a0 hw [] x2 h4 ) hZ (hw _ (List.mem_of_getElem? (i := 35) rfl)) (hw _ (List.mem_of_getElem? (i := 34) rfl)) (by decide) (by decide)) (g := (mkF m 55 #[vR a1, vR a2, vI 0, vI 6, vI 2, vI 0] [iI x2])) rfl (by rw [hml]; rfl) (argsL := [(.int x2)]) (rest := []) (lenOf pd_0 rfl) rfl (by show 2 * 0 + _ ≤ _; exact Nat.le_of_eq rfl) (hb hby d5_55) (fun _ _ => ⟨rfl, e15, (by decide : 0 + 0 ≤ _), (by decide : 0 + 0 ≤ _)⟩)
  dsimp only [Pt.U, Pt.locs, Pt.cells, Pt.slots] at X18 l18 y18 z18 st18 hQ18
  subst l18 y18 z18
  obtain ⟨rfl, rfl, e18⟩ := hQ18
  try rw [List.append_nil] at X18
  have hin19 : ¬ ((3 : Int32) < 0 ∨ cl6.slots.size ≤ ((3 : Int32)).toNatClampNeg) := inb_of S6 ⟨by decide, by decide⟩
  have hat20 : cl6.slots[((3 : Int32)).toNatClampNeg]? = some (.int x3) := Has.at H6 hin19 rfl
  obtain ⟨_, _, ⟨T21, L21, k21, n21⟩, -, X21, ⟨Lc21, hQ21, l21, y21, z21⟩, st21⟩ := callSN X18 hx (y := (⟨"com/example/tidemine/tidemine/TextFormat", "isSeparator", "(B)Z"⟩ : MethodName)) hown (Cond.methodLinkNest_wide hZ (hw _ (List.mem_of_getElem? (i := 32) rfl))) (mvT hZ (hw _ (List.mem_of_getElem? (i := 33) rfl))) (mvT hZ (hw _ (List.mem_of_getElem? (i := 34) rfl))) (mvT hZ (hw _ (List.mem_of_getElem? (i := 35) rfl))) (by decide) (backOf (W := 0) (rm6 l Z a0 hw [] x3 h4 ) hZ (hw _ (List.mem_of_getElem? (i := 35) rfl)) (hw _ (List.mem_of_getElem? (i := 34) rfl)) (by decide) (by decide)) (g := (mkF m 55 #[vR a1, vR a2, vI 0, vI 6, vI 3, vI 0] [iI x3])) rfl (by rw [hml]; rfl) (argsL := [(.int x3)]) (rest := []) (lenOf pd_0 rfl) rfl (by show 2 * 0 + _ ≤ _; exact Nat.le_of_eq rfl) (hb hby d5_55) (fun _ _ => ⟨rfl, e18, (by decide : 0 + 0 ≤ _), (by decide : 0 + 0 ≤ _)⟩)
  dsimp only [Pt.U, Pt.locs, Pt.cells, Pt.slots] at X21 l21 y21 z21 st21 hQ21
  subst l21 y21 z21
  obtain ⟨rfl, rfl, e21⟩ := hQ21
  try rw [List.append_nil] at X21
  obtain ⟨T22, X22, e22, st22⟩ := getF X21 hx hZ hown (host := "") (Or.inl (hw _ (List.mem_of_getElem? (i := 30) rfl))) Via.refl e21 Fw4 (g := (mkF m 75 #[vR a1, vR a2, vI 0, vI 6, vI 3, vI 0] [iR a1])) rfl rfl (hb hby d5_75)
  have fk23 := ((F_starts.other W1 (Or.inr (slot_ne (Or.inl (hw _ (List.mem_of_getElem? (i := 20) rfl))) (Or.inl (hw _ (List.mem_of_getElem? (i := 29) rfl))) (by decide) (t := (.array .int)) (t' := (.array .byte)) (by decide) (by decide)))).other W4 (Or.inr (slot_ne (Or.inl (hw _ (List.mem_of_getElem? (i := 20) rfl))) (Or.inl (hw _ (List.mem_of_getElem? (i := 31) rfl))) (by decide) (t := (.array .int)) (t' := .int) (by decide) (by decide))))
  obtain ⟨T24, X24, e24, st24⟩ := getF X22 hx hZ hown (host := "") (Or.inl (hw _ (List.mem_of_getElem? (i := 19) rfl))) Via.refl e22 fk23 (g := (mkF m 79 #[vR a1, vR a2, vI 0, vI 6, vI 3, vI 0] [iR a1, iI 0])) rfl rfl (hb hby d5_79)
  have fk25 := ((V_1.other W1 (Ne.symm ne_a1_s1)).other W4 (Ne.symm ne_a1_s1))
  obtain ⟨cl26, Ar26, q26, S26, M26, H26, G26⟩ := id fk25
  obtain ⟨T27, X27, e27, st27⟩ := getF X24 hx hZ hown (host := "") (Or.inl (hw _ (List.mem_of_getElem? (i := 19) rfl))) Via.refl e24 fk23 (g := (mkF m 121 #[vR a1, vR a2, vI 0, vI 6, vI 3, vI 0] [iR a1])) rfl rfl (hb hby d5_121)
  obtain ⟨T28, X28, e28, st28⟩ := getF X27 hx hZ hown (host := "") (Or.inl (hw _ (List.mem_of_getElem? (i := 30) rfl))) Via.refl e27 Fw4 (g := (mkF m 125 #[vR a1, vR a2, vI 0, vI 6, vI 3, vI 0] [iR a1, iR s1])) rfl rfl (hb hby d5_125)
  have hin29 : ¬ ((0 : Int32) < 0 ∨ cl26.slots.size ≤ ((0 : Int32)).toNatClampNeg) := inb_of S26 ⟨by decide, by decide⟩
  obtain ⟨T30, h30, X30, e30, W30, st30⟩ := stI X28 hx hZ e28 Ar26 (j := (0 : Int32)) hin29 (g := (mkF m 130 #[vR a1, vR a2, vI 0, vI 6, vI 3, vI 0] [iI 0, iI 0, iR s1])) rfl rfl (hb hby d5_130)
  have V30 : Arv Z h30 s1 k1 .int (16 : Int32) [(.int (0 : Int32)), (.int (0 : Int32)), (.int (0 : Int32)), (.int (0 : Int32)), (.int (0 : Int32)), (.int (0 : Int32)), (.int (0 : Int32)), (.int (0 : Int32)), (.int (0 : Int32)), (.int (0 : Int32)), (.int (0 : Int32)), (.int (0 : Int32)), (.int (0 : Int32)), (.int (0 : Int32)), (.int (0 : Int32)), (.int (0 : Int32))] (.int (0 : Int32)) := Arv.set Ar26 q26 S26 M26 H26 G26 rfl W30 0 rfl (Nat.le_of_ble_eq_true rfl)
  have K30 : Keep h0 h30 [a1, s1, s2] := K4.wr W30 (Or.inl (List.mem_of_getElem? (i := 1) rfl))
  have N30 := Fr.snoc X30 N4 g_s1
  have fk31 := (((F_ends.other W1 (Or.inr (slot_ne (Or.inl (hw _ (List.mem_of_getElem? (i := 22) rfl))) (Or.inl (hw _ (List.mem_of_getElem? (i := 29) rfl))) (by decide) (t := (.array .int)) (t' := (.array .byte)) (by decide) (by decide)))).other W4 (Or.inr (slot_ne (Or.inl (hw _ (List.mem_of_getElem? (i := 22) rfl))) (Or.inl (hw _ (List.mem_of_getElem? (i := 31) rfl))) (by decide) (t := (.array .int)) (t' := .int) (by decide) (by decide)))).other W30 (Or.inl ne_a1_s1))
  obtain ⟨T32, X32, e32, st32⟩ := getF X30 hx hZ hown (host := "") (Or.inl (hw _ (List.mem_of_getElem? (i := 21) rfl))) Via.refl e30 fk31 (g := (mkF m 132 #[vR a1, vR a2, vI 0, vI 6, vI 3, vI 0] [iR a1])) rfl rfl (hb hby d5_132)
  have fk33 := (Fw4.other W30 (Or.inl ne_a1_s1))
  obtain ⟨T34, X34, e34, st34⟩ := getF X32 hx hZ hown (host := "") (Or.inl (hw _ (List.mem_of_getElem? (i := 30) rfl))) Via.refl e32 fk33 (g := (mkF m 136 #[vR a1, vR a2, vI 0, vI 6, vI 3, vI 0] [iR a1, iR s2])) rfl rfl (hb hby d5_136)
  have fk35 := (((V_2.other W1 (Ne.symm ne_a1_s2)).other W4 (Ne.symm ne_a1_s2)).other W30 (Ne.symm ne_s1_s2))
  obtain ⟨cl36, Ar36, q36, S36, M36, H36, G36⟩ := id fk35
  have hin37 : ¬ ((0 : Int32) < 0 ∨ cl36.slots.size ≤ ((0 : Int32)).toNatClampNeg) := inb_of S36 ⟨by decide, by decide⟩
  obtain ⟨T38, h38, X38, e38, W38, st38⟩ := stI X34 hx hZ e34 Ar36 (j := (0 : Int32)) hin37 (g := (mkF m 141 #[vR a1, vR a2, vI 0, vI 6, vI 3, vI 0] [iI 3, iI 0, iR s2])) rfl rfl (hb hby d5_141)
  have V38 : Arv Z h38 s2 k2 .int (16 : Int32) [(.int (3 : Int32)), (.int (0 : Int32)), (.int (0 : Int32)), (.int (0 : Int32)), (.int (0 : Int32)), (.int (0 : Int32)), (.int (0 : Int32)), (.int (0 : Int32)), (.int (0 : Int32)), (.int (0 : Int32)), (.int (0 : Int32)), (.int (0 : Int32)), (.int (0 : Int32)), (.int (0 : Int32)), (.int (0 : Int32)), (.int (0 : Int32))] (.int (0 : Int32)) := Arv.set Ar36 q36 S36 M36 H36 G36 rfl W38 0 rfl (Nat.le_of_ble_eq_true rfl)
  have K38 : Keep h0 h38 [a1, s1, s2] := K30.wr W38 (Or.inl (List.mem_of_getElem? (i := 2) rfl))
  have N38 := Fr.snoc X38 N30 g_s2
  have fk39 := (fk33.other W38 (Or.inl ne_a1_s2))
  obtain ⟨T40, X40, e40, st40⟩ := getF X38 hx hZ hown (host := "") (Or.inl (hw _ (List.mem_of_getElem? (i := 30) rfl))) Via.refl e38 fk39 (g := (mkF m 144 #[vR a1, vR a2, vI 0, vI 6, vI 3, vI 0] [iR a1, iR a1])) rfl rfl (hb hby d5_144)
  have fk41 := (((fk3.wr W4).wr W30).wr W38)
  obtain ⟨T42, h42, X42, e42, W42, st42⟩ := putF X40 hx hZ hown (host := "") (Or.inl (hw _ (List.mem_of_getElem? (i := 30) rfl))) Via.refl e40 fk39 fk41 (Or.inl (hw _ (List.mem_of_getElem? (i := 31) rfl))) (hw _ (List.mem_of_getElem? (i := 10) rfl)) (ty := .int) (by decide) rfl rfl (g := (mkF m 149 #[vR a1, vR a2, vI 0, vI 6, vI 3, vI 0] [iI 1, iR a1])) rfl rfl (hb hby d5_149)
  have Fw42 := fk39.same W42
  have K42 : Keep h0 h42 [a1, s1, s2] := K38.wr W42 (Or.inl (List.mem_of_getElem? (i := 0) rfl))
  have N42 := Fr.snoc X42 N38 g_a1
  have fk43 := (((fk5.other W30 ne_a2_s1).other W38 ne_a2_s2).other W42 (Ne.symm ne_a1_a2))
  obtain ⟨cl44, Ar44, q44, S44, M44, H44, G44⟩ := id fk43
  have hin45 : ¬ ((3 : Int32) < 0 ∨ cl44.slots.size ≤ ((3 : Int32)).toNatClampNeg) := inb_of S44 ⟨by decide, by decide⟩
  have hat46 : cl44.slots[((3 : Int32)).toNatClampNeg]? = some (.int x3) := Has.at H44 hin45 rfl
  obtain ⟨_, _, ⟨T47, L47, k47, n47⟩, -, X47, ⟨Lc47, hQ47, l47, y47, z47⟩, st47⟩ := callSN X42 hx (y := (⟨"com/example/tidemine/tidemine/TextFormat", "isSeparator", "(B)Z"⟩ : MethodName)) hown (Cond.methodLinkNest_wide hZ (hw _ (List.mem_of_getElem? (i := 32) rfl))) (mvT hZ (hw _ (List.mem_of_getElem? (i := 33) rfl))) (mvT hZ (hw _ (List.mem_of_getElem? (i := 34) rfl))) (mvT hZ (hw _ (List.mem_of_getElem? (i := 35) rfl))) (by decide) (backOf (W := 0) (rm6 l Z a0 hw [] x3 h42 ) hZ (hw _ (List.mem_of_getElem? (i := 35) rfl)) (hw _ (List.mem_of_getElem? (i := 34) rfl)) (by decide) (by decide)) (g := (mkF m 29 #[vR a1, vR a2, vI 0, vI 6, vI 3, vI 0] [iI x3])) rfl (by rw [hml]; rfl) (argsL := [(.int x3)]) (rest := []) (lenOf pd_0 rfl) rfl (by show 2 * 0 + _ ≤ _; exact Nat.le_of_eq rfl) (hb hby d5_29) (fun _ _ => ⟨rfl, e42, (by decide : 0 + 0 ≤ _), (by decide : 0 + 0 ≤ _)⟩)
  dsimp only [Pt.U, Pt.locs, Pt.cells, Pt.slots] at X47 l47 y47 z47 st47 hQ47
  subst l47 y47 z47
  obtain ⟨rfl, rfl, e47⟩ := hQ47
  try rw [List.append_nil] at X47
  have hin48 : ¬ ((4 : Int32) < 0 ∨ cl44.slots.size ≤ ((4 : Int32)).toNatClampNeg) := inb_of S44 ⟨by decide, by decide⟩
  have hat49 : cl44.slots[((4 : Int32)).toNatClampNeg]? = some (.int x4) := Has.at H44 hin48 rfl
  obtain ⟨_, _, ⟨T50, L50, k50, n50⟩, -, X50, ⟨Lc50, hQ50, l50, y50, z50⟩, st50⟩ := callSN X47 hx (y := (⟨"com/example/tidemine/tidemine/TextFormat", "isSeparator", "(B)Z"⟩ : MethodName)) hown (Cond.methodLinkNest_wide hZ (hw _ (List.mem_of_getElem? (i := 32) rfl))) (mvT hZ (hw _ (List.mem_of_getElem? (i := 33) rfl))) (mvT hZ (hw _ (List.mem_of_getElem? (i := 34) rfl))) (mvT hZ (hw _ (List.mem_of_getElem? (i := 35) rfl))) (by decide) (backOf (W := 0) (rm6 l Z a0 hw [] x4 h42 ) hZ (hw _ (List.mem_of_getElem? (i := 35) rfl)) (hw _ (List.mem_of_getElem? (i := 34) rfl)) (by decide) (by decide)) (g := (mkF m 29 #[vR a1, vR a2, vI 0, vI 6, vI 4, vI 0] [iI x4])) rfl (by rw [hml]; rfl) (argsL := [(.int x4)]) (rest := []) (lenOf pd_0 rfl) rfl (by show 2 * 0 + _ ≤ _; exact Nat.le_of_eq rfl) (hb hby d5_29) (fun _ _ => ⟨rfl, e47, (by decide : 0 + 0 ≤ _), (by decide : 0 + 0 ≤ _)⟩)
  dsimp only [Pt.U, Pt.locs, Pt.cells, Pt.slots] at X50 l50 y50 z50 st50 hQ50
  subst l50 y50 z50
  obtain ⟨rfl, rfl, e50⟩ := hQ50
  try rw [List.append_nil] at X50
  have hin51 : ¬ ((4 : Int32) < 0 ∨ cl44.slots.size ≤ ((4 : Int32)).toNatClampNeg) := inb_of S44 ⟨by decide, by decide⟩
  have hat52 : cl44.slots[((4 : Int32)).toNatClampNeg]? = some (.int x4) := Has.at H44 hin51 rfl
  obtain ⟨_, _, ⟨T53, L53, k53, n53⟩, -, X53, ⟨Lc53, hQ53, l53, y53, z53⟩, st53⟩ := callSN X50 hx (y := (⟨"com/example/tidemine/tidemine/TextFormat", "isSeparator", "(B)Z"⟩ : MethodName)) hown (Cond.methodLinkNest_wide hZ (hw _ (List.mem_of_getElem? (i := 32) rfl))) (mvT hZ (hw _ (List.mem_of_getElem? (i := 33) rfl))) (mvT hZ (hw _ (List.mem_of_getElem? (i := 34) rfl))) (mvT hZ (hw _ (List.mem_of_getElem? (i := 35) rfl))) (by decide) (backOf (W := 0) (rm6 l Z a0 hw [] x4 h42 ) hZ (hw _ (List.mem_of_getElem? (i := 35) rfl)) (hw _ (List.mem_of_getElem? (i := 34) rfl)) (by decide) (by decide)) (g := (mkF m 55 #[vR a1, vR a2, vI 0, vI 6, vI 4, vI 4] [iI x4])) rfl (by rw [hml]; rfl) (argsL := [(.int x4)]) (rest := []) (lenOf pd_0 rfl) rfl (by show 2 * 0 + _ ≤ _; exact Nat.le_of_eq rfl) (hb hby d5_55) (fun _ _ => ⟨rfl, e50, (by decide : 0 + 0 ≤ _), (by decide : 0 + 0 ≤ _)⟩)
  dsimp only [Pt.U, Pt.locs, Pt.cells, Pt.slots] at X53 l53 y53 z53 st53 hQ53
  subst l53 y53 z53
  obtain ⟨rfl, rfl, e53⟩ := hQ53
  try rw [List.append_nil] at X53
  have hin54 : ¬ ((5 : Int32) < 0 ∨ cl44.slots.size ≤ ((5 : Int32)).toNatClampNeg) := inb_of S44 ⟨by decide, by decide⟩
  have hat55 : cl44.slots[((5 : Int32)).toNatClampNeg]? = some (.int x5) := Has.at H44 hin54 rfl
  obtain ⟨_, _, ⟨T56, L56, k56, n56⟩, -, X56, ⟨Lc56, hQ56, l56, y56, z56⟩, st56⟩ := callSN X53 hx (y := (⟨"com/example/tidemine/tidemine/TextFormat", "isSeparator", "(B)Z"⟩ : MethodName)) hown (Cond.methodLinkNest_wide hZ (hw _ (List.mem_of_getElem? (i := 32) rfl))) (mvT hZ (hw _ (List.mem_of_getElem? (i := 33) rfl))) (mvT hZ (hw _ (List.mem_of_getElem? (i := 34) rfl))) (mvT hZ (hw _ (List.mem_of_getElem? (i := 35) rfl))) (by decide) (backOf (W := 0) (rm6 l Z a0 hw [] x5 h42 ) hZ (hw _ (List.mem_of_getElem? (i := 35) rfl)) (hw _ (List.mem_of_getElem? (i := 34) rfl)) (by decide) (by decide)) (g := (mkF m 55 #[vR a1, vR a2, vI 0, vI 6, vI 5, vI 4] [iI x5])) rfl (by rw [hml]; rfl) (argsL := [(.int x5)]) (rest := []) (lenOf pd_0 rfl) rfl (by show 2 * 0 + _ ≤ _; exact Nat.le_of_eq rfl) (hb hby d5_55) (fun _ _ => ⟨rfl, e53, (by decide : 0 + 0 ≤ _), (by decide : 0 + 0 ≤ _)⟩)
  dsimp only [Pt.U, Pt.locs, Pt.cells, Pt.slots] at X56 l56 y56 z56 st56 hQ56
  subst l56 y56 z56
  obtain ⟨rfl, rfl, e56⟩ := hQ56
  try rw [List.append_nil] at X56
  obtain ⟨T57, X57, e57, st57⟩ := getF X56 hx hZ hown (host := "") (Or.inl (hw _ (List.mem_of_getElem? (i := 30) rfl))) Via.refl e56 Fw42 (g := (mkF m 75 #[vR a1, vR a2, vI 0, vI 6, vI 6, vI 4] [iR a1])) rfl rfl (hb hby d5_75)
  have fk58 := (((fk23.other W30 (Or.inl ne_a1_s1)).other W38 (Or.inl ne_a1_s2)).other W42 (Or.inr (slot_ne (Or.inl (hw _ (List.mem_of_getElem? (i := 20) rfl))) (Or.inl (hw _ (List.mem_of_getElem? (i := 31) rfl))) (by decide) (t := (.array .int)) (t' := .int) (by decide) (by decide))))
  obtain ⟨T59, X59, e59, st59⟩ := getF X57 hx hZ hown (host := "") (Or.inl (hw _ (List.mem_of_getElem? (i := 19) rfl))) Via.refl e57 fk58 (g := (mkF m 79 #[vR a1, vR a2, vI 0, vI 6, vI 6, vI 4] [iR a1, iI 1])) rfl rfl (hb hby d5_79)
  have fk60 := ((V30.other W38 ne_s1_s2).other W42 (Ne.symm ne_a1_s1))
  obtain ⟨cl61, Ar61, q61, S61, M61, H61, G61⟩ := id fk60
  obtain ⟨T62, X62, e62, st62⟩ := getF X59 hx hZ hown (host := "") (Or.inl (hw _ (List.mem_of_getElem? (i := 19) rfl))) Via.refl e59 fk58 (g := (mkF m 121 #[vR a1, vR a2, vI 0, vI 6, vI 6, vI 4] [iR a1])) rfl rfl (hb hby d5_121)
  obtain ⟨T63, X63, e63, st63⟩ := getF X62 hx hZ hown (host := "") (Or.inl (hw _ (List.mem_of_getElem? (i := 30) rfl))) Via.refl e62 Fw42 (g := (mkF m 125 #[vR a1, vR a2, vI 0, vI 6, vI 6, vI 4] [iR a1, iR s1])) rfl rfl (hb hby d5_125)
  have hin64 : ¬ ((1 : Int32) < 0 ∨ cl61.slots.size ≤ ((1 : Int32)).toNatClampNeg) := inb_of S61 ⟨by decide, by decide⟩
  obtain ⟨T65, h65, X65, e65, W65, st65⟩ := stI X63 hx hZ e63 Ar61 (j := (1 : Int32)) hin64 (g := (mkF m 130 #[vR a1, vR a2, vI 0, vI 6, vI 6, vI 4] [iI 4, iI 1, iR s1])) rfl rfl (hb hby d5_130)
  have V65 : Arv Z h65 s1 k1 .int (16 : Int32) [(.int (0 : Int32)), (.int (4 : Int32)), (.int (0 : Int32)), (.int (0 : Int32)), (.int (0 : Int32)), (.int (0 : Int32)), (.int (0 : Int32)), (.int (0 : Int32)), (.int (0 : Int32)), (.int (0 : Int32)), (.int (0 : Int32)), (.int (0 : Int32)), (.int (0 : Int32)), (.int (0 : Int32)), (.int (0 : Int32)), (.int (0 : Int32))] (.int (0 : Int32)) := Arv.set Ar61 q61 S61 M61 H61 G61 rfl W65 1 rfl (Nat.le_of_ble_eq_true rfl)
  have K65 : Keep h0 h65 [a1, s1, s2] := K42.wr W65 (Or.inl (List.mem_of_getElem? (i := 1) rfl))
  have N65 := Fr.snoc X65 N42 g_s1
  have fk66 := (((fk31.other W38 (Or.inl ne_a1_s2)).other W42 (Or.inr (slot_ne (Or.inl (hw _ (List.mem_of_getElem? (i := 22) rfl))) (Or.inl (hw _ (List.mem_of_getElem? (i := 31) rfl))) (by decide) (t := (.array .int)) (t' := .int) (by decide) (by decide)))).other W65 (Or.inl ne_a1_s1))
  obtain ⟨T67, X67, e67, st67⟩ := getF X65 hx hZ hown (host := "") (Or.inl (hw _ (List.mem_of_getElem? (i := 21) rfl))) Via.refl e65 fk66 (g := (mkF m 132 #[vR a1, vR a2, vI 0, vI 6, vI 6, vI 4] [iR a1])) rfl rfl (hb hby d5_132)
  have fk68 := (Fw42.other W65 (Or.inl ne_a1_s1))
  obtain ⟨T69, X69, e69, st69⟩ := getF X67 hx hZ hown (host := "") (Or.inl (hw _ (List.mem_of_getElem? (i := 30) rfl))) Via.refl e67 fk68 (g := (mkF m 136 #[vR a1, vR a2, vI 0, vI 6, vI 6, vI 4] [iR a1, iR s2])) rfl rfl (hb hby d5_136)
  have fk70 := ((V38.other W42 (Ne.symm ne_a1_s2)).other W65 (Ne.symm ne_s1_s2))
  obtain ⟨cl71, Ar71, q71, S71, M71, H71, G71⟩ := id fk70
  have hin72 : ¬ ((1 : Int32) < 0 ∨ cl71.slots.size ≤ ((1 : Int32)).toNatClampNeg) := inb_of S71 ⟨by decide, by decide⟩
  obtain ⟨T73, h73, X73, e73, W73, st73⟩ := stI X69 hx hZ e69 Ar71 (j := (1 : Int32)) hin72 (g := (mkF m 141 #[vR a1, vR a2, vI 0, vI 6, vI 6, vI 4] [iI 6, iI 1, iR s2])) rfl rfl (hb hby d5_141)
  have V73 : Arv Z h73 s2 k2 .int (16 : Int32) [(.int (3 : Int32)), (.int (6 : Int32)), (.int (0 : Int32)), (.int (0 : Int32)), (.int (0 : Int32)), (.int (0 : Int32)), (.int (0 : Int32)), (.int (0 : Int32)), (.int (0 : Int32)), (.int (0 : Int32)), (.int (0 : Int32)), (.int (0 : Int32)), (.int (0 : Int32)), (.int (0 : Int32)), (.int (0 : Int32)), (.int (0 : Int32))] (.int (0 : Int32)) := Arv.set Ar71 q71 S71 M71 H71 G71 rfl W73 1 rfl (Nat.le_of_ble_eq_true rfl)
  have K73 : Keep h0 h73 [a1, s1, s2] := K65.wr W73 (Or.inl (List.mem_of_getElem? (i := 2) rfl))
  have N73 := Fr.snoc X73 N65 g_s2
  have fk74 := (fk68.other W73 (Or.inl ne_a1_s2))
  obtain ⟨T75, X75, e75, st75⟩ := getF X73 hx hZ hown (host := "") (Or.inl (hw _ (List.mem_of_getElem? (i := 30) rfl))) Via.refl e73 fk74 (g := (mkF m 144 #[vR a1, vR a2, vI 0, vI 6, vI 6, vI 4] [iR a1, iR a1])) rfl rfl (hb hby d5_144)
  have fk76 := (((fk41.wr W42).wr W65).wr W73)
  obtain ⟨T77, h77, X77, e77, W77, st77⟩ := putF X75 hx hZ hown (host := "") (Or.inl (hw _ (List.mem_of_getElem? (i := 30) rfl))) Via.refl e75 fk74 fk76 (Or.inl (hw _ (List.mem_of_getElem? (i := 31) rfl))) (hw _ (List.mem_of_getElem? (i := 10) rfl)) (ty := .int) (by decide) rfl rfl (g := (mkF m 149 #[vR a1, vR a2, vI 0, vI 6, vI 6, vI 4] [iI 2, iR a1])) rfl rfl (hb hby d5_149)
  have Fw77 := fk74.same W77
  have K77 : Keep h0 h77 [a1, s1, s2] := K73.wr W77 (Or.inl (List.mem_of_getElem? (i := 0) rfl))
  have N77 := Fr.snoc X77 N73 g_a1
  obtain ⟨fs, hr, hrun, hended, hW, hsame⟩ := X77.leave (v := none) (fun _ => rfl)
  have fk78 := (fk76.wr W77)
  have fk79 := (((((((Fw1.other W4 (Or.inr (slot_ne (Or.inl (hw _ (List.mem_of_getElem? (i := 29) rfl))) (Or.inl (hw _ (List.mem_of_getElem? (i := 31) rfl))) (by decide) (t := (.array .byte)) (t' := .int) (by decide) (by decide)))).other W30 (Or.inl ne_a1_s1)).other W38 (Or.inl ne_a1_s2)).other W42 (Or.inr (slot_ne (Or.inl (hw _ (List.mem_of_getElem? (i := 29) rfl))) (Or.inl (hw _ (List.mem_of_getElem? (i := 31) rfl))) (by decide) (t := (.array .byte)) (t' := .int) (by decide) (by decide)))).other W65 (Or.inl ne_a1_s1)).other W73 (Or.inl ne_a1_s2)).other W77 (Or.inr (slot_ne (Or.inl (hw _ (List.mem_of_getElem? (i := 29) rfl))) (Or.inl (hw _ (List.mem_of_getElem? (i := 31) rfl))) (by decide) (t := (.array .byte)) (t' := .int) (by decide) (by decide))))
  have fk80 := (((fk58.other W65 (Or.inl ne_a1_s1)).other W73 (Or.inl ne_a1_s2)).other W77 (Or.inr (slot_ne (Or.inl (hw _ (List.mem_of_getElem? (i := 20) rfl))) (Or.inl (hw _ (List.mem_of_getElem? (i := 31) rfl))) (by decide) (t := (.array .int)) (t' := .int) (by decide) (by decide))))
  have fk81 := ((fk66.other W73 (Or.inl ne_a1_s2)).other W77 (Or.inr (slot_ne (Or.inl (hw _ (List.mem_of_getElem? (i := 22) rfl))) (Or.inl (hw _ (List.mem_of_getElem? (i := 31) rfl))) (by decide) (t := (.array .int)) (t' := .int) (by decide) (by decide))))
  have fk82 := ((V65.other W73 ne_s1_s2).other W77 (Ne.symm ne_a1_s1))
  have fk83 := (V73.other W77 (Ne.symm ne_a1_s2))
  refine ⟨_, _, pre0 _ ?_, hrun, hended, _, _, rfl, ?_, ⟨_, rfl⟩, hW, hsame.mono (by decide) (by decide)⟩
  · show Steps _ _ _ (s₁.setTop (mkF m 0 #[vR a1, vR a2, vI 0, vI 6, .unset, .unset] [])) _
    refine XS.aloadN X0.here hx rfl (hb hby d5_0) rfl rfl ?_
    show Steps _ _ _ (s₁.setTop (mkF m 1 #[vR a1, vR a2, vI 0, vI 6, .unset, .unset] [iR a1])) _
    refine XS.aloadN X0.here hx rfl (hb hby d5_1) rfl rfl ?_
    show Steps _ _ _ (s₁.setTop (mkF m 2 #[vR a1, vR a2, vI 0, vI 6, .unset, .unset] [iR a2, iR a1])) _
    refine st1 _ ?_
    show Steps _ _ _ (T1.setTop (mkF m 5 #[vR a1, vR a2, vI 0, vI 6, .unset, .unset] [])) _
    refine XS.aloadN X1.here hx rfl (hb hby d5_5) rfl rfl ?_
    show Steps _ _ _ (T1.setTop (mkF m 6 #[vR a1, vR a2, vI 0, vI 6, .unset, .unset] [iR a1])) _
    refine XS.iconst X1.here hx rfl (hb hby d5_6) ?_
    show Steps _ _ _ (T1.setTop (mkF m 7 #[vR a1, vR a2, vI 0, vI 6, .unset, .unset] [iI 0, iR a1])) _
    refine st4 _ ?_
    show Steps _ _ _ (T4.setTop (mkF m 10 #[vR a1, vR a2, vI 0, vI 6, .unset, .unset] [])) _
    refine XS.iloadN X4.here hx rfl (hb hby d5_10) rfl ?_
    show Steps _ _ _ (T4.setTop (mkF m 11 #[vR a1, vR a2, vI 0, vI 6, .unset, .unset] [iI 0])) _
    refine XS.istore X4.here hx rfl (hb hby d5_11) rfl (l' := #[vR a1, vR a2, vI 0, vI 6, vI 0, .unset]) rfl ?_
    show Steps _ _ _ (T4.setTop (mkF m 13 #[vR a1, vR a2, vI 0, vI 6, vI 0, .unset] [])) _
    refine XS.iload X4.here hx rfl (hb hby d5_13) rfl ?_
    show Steps _ _ _ (T4.setTop (mkF m 15 #[vR a1, vR a2, vI 0, vI 6, vI 0, .unset] [iI 0])) _
    refine XS.iloadN X4.here hx rfl (hb hby d5_15) rfl ?_
    show Steps _ _ _ (T4.setTop (mkF m 16 #[vR a1, vR a2, vI 0, vI 6, vI 0, .unset] [iI 6, iI 0])) _
    refine XS.icmpNo X4.here hx rfl (hb hby d5_16) rfl (tlt (by decide : (0 : Int32) < (6 : Int32))).2.1 ?_
    show Steps _ _ _ (T4.setTop (mkF m 19 #[vR a1, vR a2, vI 0, vI 6, vI 0, .unset] [])) _
    refine XS.iload X4.here hx rfl (hb hby d5_19) rfl ?_
    show Steps _ _ _ (T4.setTop (mkF m 21 #[vR a1, vR a2, vI 0, vI 6, vI 0, .unset] [iI 0])) _
    refine XS.iloadN X4.here hx rfl (hb hby d5_21) rfl ?_
    show Steps _ _ _ (T4.setTop (mkF m 22 #[vR a1, vR a2, vI 0, vI 6, vI 0, .unset] [iI 6, iI 0])) _
    refine XS.icmpNo X4.here hx rfl (hb hby d5_22) rfl (tlt (by decide : (0 : Int32) < (6 : Int32))).2.1 ?_
    show Steps _ _ _ (T4.setTop (mkF m 25 #[vR a1, vR a2, vI 0, vI 6, vI 0, .unset] [])) _
    refine XS.aloadN X4.here hx rfl (hb hby d5_25) rfl rfl ?_
    show Steps _ _ _ (T4.setTop (mkF m 26 #[vR a1, vR a2, vI 0, vI 6, vI 0, .unset] [iR a2])) _
    refine XS.iload X4.here hx rfl (hb hby d5_26) rfl ?_
    show Steps _ _ _ (T4.setTop (mkF m 28 #[vR a1, vR a2, vI 0, vI 6, vI 0, .unset] [iI 0, iR a2])) _
    refine X4.baloadBytes hx (j := (0 : Int32)) (v := (.int x0)) (by rw [e4]; exact Ar6.1) (State.isArrayOf_alike hZ.alike Ar6.2.1) Ar6.2.2 hin7 hat8 (g := (mkF m 28 #[vR a1, vR a2, vI 0, vI 6, vI 0, .unset] [iI 0, iR a2])) rfl rfl (hb hby d5_28) _ ?_
    show Steps _ _ _ (T4.setTop (mkF m 29 #[vR a1, vR a2, vI 0, vI 6, vI 0, .unset] [iI x0])) _
    refine st9.trans ?_
    show Steps _ _ _ (T9.setTop (mkF m 32 #[vR a1, vR a2, vI 0, vI 6, vI 0, .unset] [iI (own_sep x0)])) _
    refine XS.ifYes X9.here hx rfl (pc0 := 32) (pc' := 41) rfl (hb hby d5_32) rfl ((if0 _ _).trans (teq hx0).1) (by decide) (by decide) ?_
    show Steps _ _ _ (T9.setTop (mkF m 41 #[vR a1, vR a2, vI 0, vI 6, vI 0, .unset] [])) _
    refine XS.iload X9.here hx rfl (hb hby d5_41) rfl ?_
    show Steps _ _ _ (T9.setTop (mkF m 43 #[vR a1, vR a2, vI 0, vI 6, vI 0, .unset] [iI 0])) _
    refine XS.istore X9.here hx rfl (hb hby d5_43) rfl (l' := #[vR a1, vR a2, vI 0, vI 6, vI 0, vI 0]) rfl ?_
    show Steps _ _ _ (T9.setTop (mkF m 45 #[vR a1, vR a2, vI 0, vI 6, vI 0, vI 0] [])) _
    refine XS.iload X9.here hx rfl (hb hby d5_45) rfl ?_
    show Steps _ _ _ (T9.setTop (mkF m 47 #[vR a1, vR a2, vI 0, vI 6, vI 0, vI 0] [iI 0])) _
    refine XS.iloadN X9.here hx rfl (hb hby d5_47) rfl ?_
    show Steps _ _ _ (T9.setTop (mkF m 48 #[vR a1, vR a2, vI 0, vI 6, vI 0, vI 0] [iI 6, iI 0])) _
    refine XS.icmpNo X9.here hx rfl (hb hby d5_48) rfl (tlt (by decide : (0 : Int32) < (6 : Int32))).2.1 ?_
    show Steps _ _ _ (T9.setTop (mkF m 51 #[vR a1, vR a2, vI 0, vI 6, vI 0, vI 0] [])) _
    refine XS.aloadN X9.here hx rfl (hb hby d5_51) rfl rfl ?_
    show Steps _ _ _ (T9.setTop (mkF m 52 #[vR a1, vR a2, vI 0, vI 6, vI 0, vI 0] [iR a2])) _
    refine XS.iload X9.here hx rfl (hb hby d5_52) rfl ?_
    show Steps _ _ _ (T9.setTop (mkF m 54 #[vR a1, vR a2, vI 0, vI 6, vI 0, vI 0] [iI 0, iR a2])) _
    refine X9.baloadBytes hx (j := (0 : Int32)) (v := (.int x0)) (by rw [e9]; exact Ar6.1) (State.isArrayOf_alike hZ.alike Ar6.2.1) Ar6.2.2 hin10 hat11 (g := (mkF m 54 #[vR a1, vR a2, vI 0, vI 6, vI 0, vI 0] [iI 0, iR a2])) rfl rfl (hb hby d5_54) _ ?_
    show Steps _ _ _ (T9.setTop (mkF m 55 #[vR a1, vR a2, vI 0, vI 6, vI 0, vI 0] [iI x0])) _
    refine st12.trans ?_
    show Steps _ _ _ (T12.setTop (mkF m 58 #[vR a1, vR a2, vI 0, vI 6, vI 0, vI 0] [iI (own_sep x0)])) _
    refine XS.ifNo X12.here hx rfl (hb hby d5_58) rfl ((if0 _ _).trans (teq hx0).2) ?_
    show Steps _ _ _ (T12.setTop (mkF m 61 #[vR a1, vR a2, vI 0, vI 6, vI 0, vI 0] [])) _
    refine XS.iinc X12.here hx rfl (hb hby d5_61) rfl (l' := #[vR a1, vR a2, vI 0, vI 6, vI ((0 : Int32) + (1 : Int32)), vI 0]) rfl ?_
    rw [(by decide : ((0 : Int32) + (1 : Int32)) = (1 : Int32))]
    show Steps _ _ _ (T12.setTop (mkF m 64 #[vR a1, vR a2, vI 0, vI 6, vI 1, vI 0] [])) _
    refine XS.goto X12.here hx rfl (pc0 := 64) (pc' := 45) rfl (hb hby d5_64) (by decide) (by decide) ?_
    show Steps _ _ _ (T12.setTop (mkF m 45 #[vR a1, vR a2, vI 0, vI 6, vI 1, vI 0] [])) _
    refine XS.iload X12.here hx rfl (hb hby d5_45) rfl ?_
    show Steps _ _ _ (T12.setTop (mkF m 47 #[vR a1, vR a2, vI 0, vI 6, vI 1, vI 0] [iI 1])) _
    refine XS.iloadN X12.here hx rfl (hb hby d5_47) rfl ?_
    show Steps _ _ _ (T12.setTop (mkF m 48 #[vR a1, vR a2, vI 0, vI 6, vI 1, vI 0] [iI 6, iI 1])) _
    refine XS.icmpNo X12.here hx rfl (hb hby d5_48) rfl (tlt (by decide : (1 : Int32) < (6 : Int32))).2.1 ?_
    show Steps _ _ _ (T12.setTop (mkF m 51 #[vR a1, vR a2, vI 0, vI 6, vI 1, vI 0] [])) _
    refine XS.aloadN X12.here hx rfl (hb hby d5_51) rfl rfl ?_
    show Steps _ _ _ (T12.setTop (mkF m 52 #[vR a1, vR a2, vI 0, vI 6, vI 1, vI 0] [iR a2])) _
    refine XS.iload X12.here hx rfl (hb hby d5_52) rfl ?_
    show Steps _ _ _ (T12.setTop (mkF m 54 #[vR a1, vR a2, vI 0, vI 6, vI 1, vI 0] [iI 1, iR a2])) _
    refine X12.baloadBytes hx (j := (1 : Int32)) (v := (.int x1)) (by rw [e12]; exact Ar6.1) (State.isArrayOf_alike hZ.alike Ar6.2.1) Ar6.2.2 hin13 hat14 (g := (mkF m 54 #[vR a1, vR a2, vI 0, vI 6, vI 1, vI 0] [iI 1, iR a2])) rfl rfl (hb hby d5_54) _ ?_
    show Steps _ _ _ (T12.setTop (mkF m 55 #[vR a1, vR a2, vI 0, vI 6, vI 1, vI 0] [iI x1])) _
    refine st15.trans ?_
    show Steps _ _ _ (T15.setTop (mkF m 58 #[vR a1, vR a2, vI 0, vI 6, vI 1, vI 0] [iI (own_sep x1)])) _
    refine XS.ifNo X15.here hx rfl (hb hby d5_58) rfl ((if0 _ _).trans (teq hx1).2) ?_
    show Steps _ _ _ (T15.setTop (mkF m 61 #[vR a1, vR a2, vI 0, vI 6, vI 1, vI 0] [])) _
    refine XS.iinc X15.here hx rfl (hb hby d5_61) rfl (l' := #[vR a1, vR a2, vI 0, vI 6, vI ((1 : Int32) + (1 : Int32)), vI 0]) rfl ?_
    rw [(by decide : ((1 : Int32) + (1 : Int32)) = (2 : Int32))]
    show Steps _ _ _ (T15.setTop (mkF m 64 #[vR a1, vR a2, vI 0, vI 6, vI 2, vI 0] [])) _
    refine XS.goto X15.here hx rfl (pc0 := 64) (pc' := 45) rfl (hb hby d5_64) (by decide) (by decide) ?_
    show Steps _ _ _ (T15.setTop (mkF m 45 #[vR a1, vR a2, vI 0, vI 6, vI 2, vI 0] [])) _
    refine XS.iload X15.here hx rfl (hb hby d5_45) rfl ?_
    show Steps _ _ _ (T15.setTop (mkF m 47 #[vR a1, vR a2, vI 0, vI 6, vI 2, vI 0] [iI 2])) _
    refine XS.iloadN X15.here hx rfl (hb hby d5_47) rfl ?_
    show Steps _ _ _ (T15.setTop (mkF m 48 #[vR a1, vR a2, vI 0, vI 6, vI 2, vI 0] [iI 6, iI 2])) _
    refine XS.icmpNo X15.here hx rfl (hb hby d5_48) rfl (tlt (by decide : (2 : Int32) < (6 : Int32))).2.1 ?_
    show Steps _ _ _ (T15.setTop (mkF m 51 #[vR a1, vR a2, vI 0, vI 6, vI 2, vI 0] [])) _
    refine XS.aloadN X15.here hx rfl (hb hby d5_51) rfl rfl ?_
    show Steps _ _ _ (T15.setTop (mkF m 52 #[vR a1, vR a2, vI 0, vI 6, vI 2, vI 0] [iR a2])) _
    refine XS.iload X15.here hx rfl (hb hby d5_52) rfl ?_
    show Steps _ _ _ (T15.setTop (mkF m 54 #[vR a1, vR a2, vI 0, vI 6, vI 2, vI 0] [iI 2, iR a2])) _
    refine X15.baloadBytes hx (j := (2 : Int32)) (v := (.int x2)) (by rw [e15]; exact Ar6.1) (State.isArrayOf_alike hZ.alike Ar6.2.1) Ar6.2.2 hin16 hat17 (g := (mkF m 54 #[vR a1, vR a2, vI 0, vI 6, vI 2, vI 0] [iI 2, iR a2])) rfl rfl (hb hby d5_54) _ ?_
    show Steps _ _ _ (T15.setTop (mkF m 55 #[vR a1, vR a2, vI 0, vI 6, vI 2, vI 0] [iI x2])) _
    refine st18.trans ?_
    show Steps _ _ _ (T18.setTop (mkF m 58 #[vR a1, vR a2, vI 0, vI 6, vI 2, vI 0] [iI (own_sep x2)])) _
    refine XS.ifNo X18.here hx rfl (hb hby d5_58) rfl ((if0 _ _).trans (teq hx2).2) ?_
    show Steps _ _ _ (T18.setTop (mkF m 61 #[vR a1, vR a2, vI 0, vI 6, vI 2, vI 0] [])) _
    refine XS.iinc X18.here hx rfl (hb hby d5_61) rfl (l' := #[vR a1, vR a2, vI 0, vI 6, vI ((2 : Int32) + (1 : Int32)), vI 0]) rfl ?_
    rw [(by decide : ((2 : Int32) + (1 : Int32)) = (3 : Int32))]
    show Steps _ _ _ (T18.setTop (mkF m 64 #[vR a1, vR a2, vI 0, vI 6, vI 3, vI 0] [])) _
    refine XS.goto X18.here hx rfl (pc0 := 64) (pc' := 45) rfl (hb hby d5_64) (by decide) (by decide) ?_
    show Steps _ _ _ (T18.setTop (mkF m 45 #[vR a1, vR a2, vI 0, vI 6, vI 3, vI 0] [])) _
    refine XS.iload X18.here hx rfl (hb hby d5_45) rfl ?_
    show Steps _ _ _ (T18.setTop (mkF m 47 #[vR a1, vR a2, vI 0, vI 6, vI 3, vI 0] [iI 3])) _
    refine XS.iloadN X18.here hx rfl (hb hby d5_47) rfl ?_
    show Steps _ _ _ (T18.setTop (mkF m 48 #[vR a1, vR a2, vI 0, vI 6, vI 3, vI 0] [iI 6, iI 3])) _
    refine XS.icmpNo X18.here hx rfl (hb hby d5_48) rfl (tlt (by decide : (3 : Int32) < (6 : Int32))).2.1 ?_
    show Steps _ _ _ (T18.setTop (mkF m 51 #[vR a1, vR a2, vI 0, vI 6, vI 3, vI 0] [])) _
    refine XS.aloadN X18.here hx rfl (hb hby d5_51) rfl rfl ?_
    show Steps _ _ _ (T18.setTop (mkF m 52 #[vR a1, vR a2, vI 0, vI 6, vI 3, vI 0] [iR a2])) _
    refine XS.iload X18.here hx rfl (hb hby d5_52) rfl ?_
    show Steps _ _ _ (T18.setTop (mkF m 54 #[vR a1, vR a2, vI 0, vI 6, vI 3, vI 0] [iI 3, iR a2])) _
    refine X18.baloadBytes hx (j := (3 : Int32)) (v := (.int x3)) (by rw [e18]; exact Ar6.1) (State.isArrayOf_alike hZ.alike Ar6.2.1) Ar6.2.2 hin19 hat20 (g := (mkF m 54 #[vR a1, vR a2, vI 0, vI 6, vI 3, vI 0] [iI 3, iR a2])) rfl rfl (hb hby d5_54) _ ?_
    show Steps _ _ _ (T18.setTop (mkF m 55 #[vR a1, vR a2, vI 0, vI 6, vI 3, vI 0] [iI x3])) _
    refine st21.trans ?_
    show Steps _ _ _ (T21.setTop (mkF m 58 #[vR a1, vR a2, vI 0, vI 6, vI 3, vI 0] [iI (own_sep x3)])) _
    refine XS.ifYes X21.here hx rfl (pc0 := 58) (pc' := 67) rfl (hb hby d5_58) rfl ((if0 _ _).trans (feq hx3).2) (by decide) (by decide) ?_
    show Steps _ _ _ (T21.setTop (mkF m 67 #[vR a1, vR a2, vI 0, vI 6, vI 3, vI 0] [])) _
    refine XS.iload X21.here hx rfl (hb hby d5_67) rfl ?_
    show Steps _ _ _ (T21.setTop (mkF m 69 #[vR a1, vR a2, vI 0, vI 6, vI 3, vI 0] [iI 3])) _
    refine XS.iload X21.here hx rfl (hb hby d5_69) rfl ?_
    show Steps _ _ _ (T21.setTop (mkF m 71 #[vR a1, vR a2, vI 0, vI 6, vI 3, vI 0] [iI 0, iI 3])) _
    refine XS.icmpNo X21.here hx rfl (hb hby d5_71) rfl (tlt (by decide : (0 : Int32) < (3 : Int32))).2.2.2 ?_
    show Steps _ _ _ (T21.setTop (mkF m 74 #[vR a1, vR a2, vI 0, vI 6, vI 3, vI 0] [])) _
    refine XS.aloadN X21.here hx rfl (hb hby d5_74) rfl rfl ?_
    show Steps _ _ _ (T21.setTop (mkF m 75 #[vR a1, vR a2, vI 0, vI 6, vI 3, vI 0] [iR a1])) _
    refine st22 _ ?_
    show Steps _ _ _ (T22.setTop (mkF m 78 #[vR a1, vR a2, vI 0, vI 6, vI 3, vI 0] [iI 0])) _
    refine XS.aloadN X22.here hx rfl (hb hby d5_78) rfl rfl ?_
    show Steps _ _ _ (T22.setTop (mkF m 79 #[vR a1, vR a2, vI 0, vI 6, vI 3, vI 0] [iR a1, iI 0])) _
    refine st24 _ ?_
    show Steps _ _ _ (T24.setTop (mkF m 82 #[vR a1, vR a2, vI 0, vI 6, vI 3, vI 0] [iR s1, iI 0])) _
    refine X24.arraylength hx (by rw [e24]; exact Ar26.1) (State.isArrayOf_alike hZ.alike Ar26.2.1) (g := (mkF m 82 #[vR a1, vR a2, vI 0, vI 6, vI 3, vI 0] [iR s1, iI 0])) rfl rfl (hb hby d5_82) _ ?_
    rw [len_of S26 M26]
    show Steps _ _ _ (T24.setTop (mkF m 83 #[vR a1, vR a2, vI 0, vI 6, vI 3, vI 0] [iI 16, iI 0])) _
    refine XS.icmpYes X24.here hx rfl (pc0 := 83) (pc' := 120) rfl (hb hby d5_83) rfl (feq (by decide : ¬ ((0 : Int32) = (16 : Int32)))).2 (by decide) (by decide) ?_
    show Steps _ _ _ (T24.setTop (mkF m 120 #[vR a1, vR a2, vI 0, vI 6, vI 3, vI 0] [])) _
    refine XS.aloadN X24.here hx rfl (hb hby d5_120) rfl rfl ?_
    show Steps _ _ _ (T24.setTop (mkF m 121 #[vR a1, vR a2, vI 0, vI 6, vI 3, vI 0] [iR a1])) _
    refine st27 _ ?_
    show Steps _ _ _ (T27.setTop (mkF m 124 #[vR a1, vR a2, vI 0, vI 6, vI 3, vI 0] [iR s1])) _
    refine XS.aloadN X27.here hx rfl (hb hby d5_124) rfl rfl ?_
    show Steps _ _ _ (T27.setTop (mkF m 125 #[vR a1, vR a2, vI 0, vI 6, vI 3, vI 0] [iR a1, iR s1])) _
    refine st28 _ ?_
    show Steps _ _ _ (T28.setTop (mkF m 128 #[vR a1, vR a2, vI 0, vI 6, vI 3, vI 0] [iI 0, iR s1])) _
    refine XS.iload X28.here hx rfl (hb hby d5_128) rfl ?_
    show Steps _ _ _ (T28.setTop (mkF m 130 #[vR a1, vR a2, vI 0, vI 6, vI 3, vI 0] [iI 0, iI 0, iR s1])) _
    refine st30 _ ?_
    show Steps _ _ _ (T30.setTop (mkF m 131 #[vR a1, vR a2, vI 0, vI 6, vI 3, vI 0] [])) _
    refine XS.aloadN X30.here hx rfl (hb hby d5_131) rfl rfl ?_
    show Steps _ _ _ (T30.setTop (mkF m 132 #[vR a1, vR a2, vI 0, vI 6, vI 3, vI 0] [iR a1])) _
    refine st32 _ ?_
    show Steps _ _ _ (T32.setTop (mkF m 135 #[vR a1, vR a2, vI 0, vI 6, vI 3, vI 0] [iR s2])) _
    refine XS.aloadN X32.here hx rfl (hb hby d5_135) rfl rfl ?_
    show Steps _ _ _ (T32.setTop (mkF m 136 #[vR a1, vR a2, vI 0, vI 6, vI 3, vI 0] [iR a1, iR s2])) _
    refine st34 _ ?_
    show Steps _ _ _ (T34.setTop (mkF m 139 #[vR a1, vR a2, vI 0, vI 6, vI 3, vI 0] [iI 0, iR s2])) _
    refine XS.iload X34.here hx rfl (hb hby d5_139) rfl ?_
    show Steps _ _ _ (T34.setTop (mkF m 141 #[vR a1, vR a2, vI 0, vI 6, vI 3, vI 0] [iI 3, iI 0, iR s2])) _
    refine st38 _ ?_
    show Steps _ _ _ (T38.setTop (mkF m 142 #[vR a1, vR a2, vI 0, vI 6, vI 3, vI 0] [])) _
    refine XS.aloadN X38.here hx rfl (hb hby d5_142) rfl rfl ?_
    show Steps _ _ _ (T38.setTop (mkF m 143 #[vR a1, vR a2, vI 0, vI 6, vI 3, vI 0] [iR a1])) _
    refine XS.dup X38.here hx rfl (hb hby d5_143) rfl rfl ?_
    show Steps _ _ _ (T38.setTop (mkF m 144 #[vR a1, vR a2, vI 0, vI 6, vI 3, vI 0] [iR a1, iR a1])) _
    refine st40 _ ?_
    show Steps _ _ _ (T40.setTop (mkF m 147 #[vR a1, vR a2, vI 0, vI 6, vI 3, vI 0] [iI 0, iR a1])) _
    refine XS.iconst X40.here hx rfl (hb hby d5_147) ?_
    show Steps _ _ _ (T40.setTop (mkF m 148 #[vR a1, vR a2, vI 0, vI 6, vI 3, vI 0] [iI 1, iI 0, iR a1])) _
    refine XS.iadd X40.here hx rfl (hb hby d5_148) rfl ?_
    rw [(by decide : ((0 : Int32) + (1 : Int32)) = (1 : Int32))]
    show Steps _ _ _ (T40.setTop (mkF m 149 #[vR a1, vR a2, vI 0, vI 6, vI 3, vI 0] [iI 1, iR a1])) _
    refine st42 _ ?_
    show Steps _ _ _ (T42.setTop (mkF m 152 #[vR a1, vR a2, vI 0, vI 6, vI 3, vI 0] [])) _
    refine XS.goto X42.here hx rfl (pc0 := 152) (pc' := 13) rfl (hb hby d5_152) (by decide) (by decide) ?_
    show Steps _ _ _ (T42.setTop (mkF m 13 #[vR a1, vR a2, vI 0, vI 6, vI 3, vI 0] [])) _
    refine XS.iload X42.here hx rfl (hb hby d5_13) rfl ?_
    show Steps _ _ _ (T42.setTop (mkF m 15 #[vR a1, vR a2, vI 0, vI 6, vI 3, vI 0] [iI 3])) _
    refine XS.iloadN X42.here hx rfl (hb hby d5_15) rfl ?_
    show Steps _ _ _ (T42.setTop (mkF m 16 #[vR a1, vR a2, vI 0, vI 6, vI 3, vI 0] [iI 6, iI 3])) _
    refine XS.icmpNo X42.here hx rfl (hb hby d5_16) rfl (tlt (by decide : (3 : Int32) < (6 : Int32))).2.1 ?_
    show Steps _ _ _ (T42.setTop (mkF m 19 #[vR a1, vR a2, vI 0, vI 6, vI 3, vI 0] [])) _
    refine XS.iload X42.here hx rfl (hb hby d5_19) rfl ?_
    show Steps _ _ _ (T42.setTop (mkF m 21 #[vR a1, vR a2, vI 0, vI 6, vI 3, vI 0] [iI 3])) _
    refine XS.iloadN X42.here hx rfl (hb hby d5_21) rfl ?_
    show Steps _ _ _ (T42.setTop (mkF m 22 #[vR a1, vR a2, vI 0, vI 6, vI 3, vI 0] [iI 6, iI 3])) _
    refine XS.icmpNo X42.here hx rfl (hb hby d5_22) rfl (tlt (by decide : (3 : Int32) < (6 : Int32))).2.1 ?_
    show Steps _ _ _ (T42.setTop (mkF m 25 #[vR a1, vR a2, vI 0, vI 6, vI 3, vI 0] [])) _
    refine XS.aloadN X42.here hx rfl (hb hby d5_25) rfl rfl ?_
    show Steps _ _ _ (T42.setTop (mkF m 26 #[vR a1, vR a2, vI 0, vI 6, vI 3, vI 0] [iR a2])) _
    refine XS.iload X42.here hx rfl (hb hby d5_26) rfl ?_
    show Steps _ _ _ (T42.setTop (mkF m 28 #[vR a1, vR a2, vI 0, vI 6, vI 3, vI 0] [iI 3, iR a2])) _
    refine X42.baloadBytes hx (j := (3 : Int32)) (v := (.int x3)) (by rw [e42]; exact Ar44.1) (State.isArrayOf_alike hZ.alike Ar44.2.1) Ar44.2.2 hin45 hat46 (g := (mkF m 28 #[vR a1, vR a2, vI 0, vI 6, vI 3, vI 0] [iI 3, iR a2])) rfl rfl (hb hby d5_28) _ ?_
    show Steps _ _ _ (T42.setTop (mkF m 29 #[vR a1, vR a2, vI 0, vI 6, vI 3, vI 0] [iI x3])) _
    refine st47.trans ?_
    show Steps _ _ _ (T47.setTop (mkF m 32 #[vR a1, vR a2, vI 0, vI 6, vI 3, vI 0] [iI (own_sep x3)])) _
    refine XS.ifNo X47.here hx rfl (hb hby d5_32) rfl ((if0 _ _).trans (feq hx3).1) ?_
    show Steps _ _ _ (T47.setTop (mkF m 35 #[vR a1, vR a2, vI 0, vI 6, vI 3, vI 0] [])) _
    refine XS.iinc X47.here hx rfl (hb hby d5_35) rfl (l' := #[vR a1, vR a2, vI 0, vI 6, vI ((3 : Int32) + (1 : Int32)), vI 0]) rfl ?_
    rw [(by decide : ((3 : Int32) + (1 : Int32)) = (4 : Int32))]
    show Steps _ _ _ (T47.setTop (mkF m 38 #[vR a1, vR a2, vI 0, vI 6, vI 4, vI 0] [])) _
    refine XS.goto X47.here hx rfl (pc0 := 38) (pc' := 19) rfl (hb hby d5_38) (by decide) (by decide) ?_
    show Steps _ _ _ (T47.setTop (mkF m 19 #[vR a1, vR a2, vI 0, vI 6, vI 4, vI 0] [])) _
    refine XS.iload X47.here hx rfl (hb hby d5_19) rfl ?_
    show Steps _ _ _ (T47.setTop (mkF m 21 #[vR a1, vR a2, vI 0, vI 6, vI 4, vI 0] [iI 4])) _
    refine XS.iloadN X47.here hx rfl (hb hby d5_21) rfl ?_
    show Steps _ _ _ (T47.setTop (mkF m 22 #[vR a1, vR a2, vI 0, vI 6, vI 4, vI 0] [iI 6, iI 4])) _
    refine XS.icmpNo X47.here hx rfl (hb hby d5_22) rfl (tlt (by decide : (4 : Int32) < (6 : Int32))).2.1 ?_
    show Steps _ _ _ (T47.setTop (mkF m 25 #[vR a1, vR a2, vI 0, vI 6, vI 4, vI 0] [])) _
    refine XS.aloadN X47.here hx rfl (hb hby d5_25) rfl rfl ?_
    show Steps _ _ _ (T47.setTop (mkF m 26 #[vR a1, vR a2, vI 0, vI 6, vI 4, vI 0] [iR a2])) _
    refine XS.iload X47.here hx rfl (hb hby d5_26) rfl ?_
    show Steps _ _ _ (T47.setTop (mkF m 28 #[vR a1, vR a2, vI 0, vI 6, vI 4, vI 0] [iI 4, iR a2])) _
    refine X47.baloadBytes hx (j := (4 : Int32)) (v := (.int x4)) (by rw [e47]; exact Ar44.1) (State.isArrayOf_alike hZ.alike Ar44.2.1) Ar44.2.2 hin48 hat49 (g := (mkF m 28 #[vR a1, vR a2, vI 0, vI 6, vI 4, vI 0] [iI 4, iR a2])) rfl rfl (hb hby d5_28) _ ?_
    show Steps _ _ _ (T47.setTop (mkF m 29 #[vR a1, vR a2, vI 0, vI 6, vI 4, vI 0] [iI x4])) _
    refine st50.trans ?_
    show Steps _ _ _ (T50.setTop (mkF m 32 #[vR a1, vR a2, vI 0, vI 6, vI 4, vI 0] [iI (own_sep x4)])) _
    refine XS.ifYes X50.here hx rfl (pc0 := 32) (pc' := 41) rfl (hb hby d5_32) rfl ((if0 _ _).trans (teq hx4).1) (by decide) (by decide) ?_
    show Steps _ _ _ (T50.setTop (mkF m 41 #[vR a1, vR a2, vI 0, vI 6, vI 4, vI 0] [])) _
    refine XS.iload X50.here hx rfl (hb hby d5_41) rfl ?_
    show Steps _ _ _ (T50.setTop (mkF m 43 #[vR a1, vR a2, vI 0, vI 6, vI 4, vI 0] [iI 4])) _
    refine XS.istore X50.here hx rfl (hb hby d5_43) rfl (l' := #[vR a1, vR a2, vI 0, vI 6, vI 4, vI 4]) rfl ?_
    show Steps _ _ _ (T50.setTop (mkF m 45 #[vR a1, vR a2, vI 0, vI 6, vI 4, vI 4] [])) _
    refine XS.iload X50.here hx rfl (hb hby d5_45) rfl ?_
    show Steps _ _ _ (T50.setTop (mkF m 47 #[vR a1, vR a2, vI 0, vI 6, vI 4, vI 4] [iI 4])) _
    refine XS.iloadN X50.here hx rfl (hb hby d5_47) rfl ?_
    show Steps _ _ _ (T50.setTop (mkF m 48 #[vR a1, vR a2, vI 0, vI 6, vI 4, vI 4] [iI 6, iI 4])) _
    refine XS.icmpNo X50.here hx rfl (hb hby d5_48) rfl (tlt (by decide : (4 : Int32) < (6 : Int32))).2.1 ?_
    show Steps _ _ _ (T50.setTop (mkF m 51 #[vR a1, vR a2, vI 0, vI 6, vI 4, vI 4] [])) _
    refine XS.aloadN X50.here hx rfl (hb hby d5_51) rfl rfl ?_
    show Steps _ _ _ (T50.setTop (mkF m 52 #[vR a1, vR a2, vI 0, vI 6, vI 4, vI 4] [iR a2])) _
    refine XS.iload X50.here hx rfl (hb hby d5_52) rfl ?_
    show Steps _ _ _ (T50.setTop (mkF m 54 #[vR a1, vR a2, vI 0, vI 6, vI 4, vI 4] [iI 4, iR a2])) _
    refine X50.baloadBytes hx (j := (4 : Int32)) (v := (.int x4)) (by rw [e50]; exact Ar44.1) (State.isArrayOf_alike hZ.alike Ar44.2.1) Ar44.2.2 hin51 hat52 (g := (mkF m 54 #[vR a1, vR a2, vI 0, vI 6, vI 4, vI 4] [iI 4, iR a2])) rfl rfl (hb hby d5_54) _ ?_
    show Steps _ _ _ (T50.setTop (mkF m 55 #[vR a1, vR a2, vI 0, vI 6, vI 4, vI 4] [iI x4])) _
    refine st53.trans ?_
    show Steps _ _ _ (T53.setTop (mkF m 58 #[vR a1, vR a2, vI 0, vI 6, vI 4, vI 4] [iI (own_sep x4)])) _
    refine XS.ifNo X53.here hx rfl (hb hby d5_58) rfl ((if0 _ _).trans (teq hx4).2) ?_
    show Steps _ _ _ (T53.setTop (mkF m 61 #[vR a1, vR a2, vI 0, vI 6, vI 4, vI 4] [])) _
    refine XS.iinc X53.here hx rfl (hb hby d5_61) rfl (l' := #[vR a1, vR a2, vI 0, vI 6, vI ((4 : Int32) + (1 : Int32)), vI 4]) rfl ?_
    rw [(by decide : ((4 : Int32) + (1 : Int32)) = (5 : Int32))]
    show Steps _ _ _ (T53.setTop (mkF m 64 #[vR a1, vR a2, vI 0, vI 6, vI 5, vI 4] [])) _
    refine XS.goto X53.here hx rfl (pc0 := 64) (pc' := 45) rfl (hb hby d5_64) (by decide) (by decide) ?_
    show Steps _ _ _ (T53.setTop (mkF m 45 #[vR a1, vR a2, vI 0, vI 6, vI 5, vI 4] [])) _
    refine XS.iload X53.here hx rfl (hb hby d5_45) rfl ?_
    show Steps _ _ _ (T53.setTop (mkF m 47 #[vR a1, vR a2, vI 0, vI 6, vI 5, vI 4] [iI 5])) _
    refine XS.iloadN X53.here hx rfl (hb hby d5_47) rfl ?_
    show Steps _ _ _ (T53.setTop (mkF m 48 #[vR a1, vR a2, vI 0, vI 6, vI 5, vI 4] [iI 6, iI 5])) _
    refine XS.icmpNo X53.here hx rfl (hb hby d5_48) rfl (tlt (by decide : (5 : Int32) < (6 : Int32))).2.1 ?_
    show Steps _ _ _ (T53.setTop (mkF m 51 #[vR a1, vR a2, vI 0, vI 6, vI 5, vI 4] [])) _
    refine XS.aloadN X53.here hx rfl (hb hby d5_51) rfl rfl ?_
    show Steps _ _ _ (T53.setTop (mkF m 52 #[vR a1, vR a2, vI 0, vI 6, vI 5, vI 4] [iR a2])) _
    refine XS.iload X53.here hx rfl (hb hby d5_52) rfl ?_
    show Steps _ _ _ (T53.setTop (mkF m 54 #[vR a1, vR a2, vI 0, vI 6, vI 5, vI 4] [iI 5, iR a2])) _
    refine X53.baloadBytes hx (j := (5 : Int32)) (v := (.int x5)) (by rw [e53]; exact Ar44.1) (State.isArrayOf_alike hZ.alike Ar44.2.1) Ar44.2.2 hin54 hat55 (g := (mkF m 54 #[vR a1, vR a2, vI 0, vI 6, vI 5, vI 4] [iI 5, iR a2])) rfl rfl (hb hby d5_54) _ ?_
    show Steps _ _ _ (T53.setTop (mkF m 55 #[vR a1, vR a2, vI 0, vI 6, vI 5, vI 4] [iI x5])) _
    refine st56.trans ?_
    show Steps _ _ _ (T56.setTop (mkF m 58 #[vR a1, vR a2, vI 0, vI 6, vI 5, vI 4] [iI (own_sep x5)])) _
    refine XS.ifNo X56.here hx rfl (hb hby d5_58) rfl ((if0 _ _).trans (teq hx5).2) ?_
    show Steps _ _ _ (T56.setTop (mkF m 61 #[vR a1, vR a2, vI 0, vI 6, vI 5, vI 4] [])) _
    refine XS.iinc X56.here hx rfl (hb hby d5_61) rfl (l' := #[vR a1, vR a2, vI 0, vI 6, vI ((5 : Int32) + (1 : Int32)), vI 4]) rfl ?_
    rw [(by decide : ((5 : Int32) + (1 : Int32)) = (6 : Int32))]
    show Steps _ _ _ (T56.setTop (mkF m 64 #[vR a1, vR a2, vI 0, vI 6, vI 6, vI 4] [])) _
    refine XS.goto X56.here hx rfl (pc0 := 64) (pc' := 45) rfl (hb hby d5_64) (by decide) (by decide) ?_
    show Steps _ _ _ (T56.setTop (mkF m 45 #[vR a1, vR a2, vI 0, vI 6, vI 6, vI 4] [])) _
    refine XS.iload X56.here hx rfl (hb hby d5_45) rfl ?_
    show Steps _ _ _ (T56.setTop (mkF m 47 #[vR a1, vR a2, vI 0, vI 6, vI 6, vI 4] [iI 6])) _
    refine XS.iloadN X56.here hx rfl (hb hby d5_47) rfl ?_
    show Steps _ _ _ (T56.setTop (mkF m 48 #[vR a1, vR a2, vI 0, vI 6, vI 6, vI 4] [iI 6, iI 6])) _
    refine XS.icmpYes X56.here hx rfl (pc0 := 48) (pc' := 67) rfl (hb hby d5_48) rfl (flt (by decide : ¬ ((6 : Int32) < (6 : Int32)))).2.1 (by decide) (by decide) ?_
    show Steps _ _ _ (T56.setTop (mkF m 67 #[vR a1, vR a2, vI 0, vI 6, vI 6, vI 4] [])) _
    refine XS.iload X56.here hx rfl (hb hby d5_67) rfl ?_
    show Steps _ _ _ (T56.setTop (mkF m 69 #[vR a1, vR a2, vI 0, vI 6, vI 6, vI 4] [iI 6])) _
    refine XS.iload X56.here hx rfl (hb hby d5_69) rfl ?_
    show Steps _ _ _ (T56.setTop (mkF m 71 #[vR a1, vR a2, vI 0, vI 6, vI 6, vI 4] [iI 4, iI 6])) _
    refine XS.icmpNo X56.here hx rfl (hb hby d5_71) rfl (tlt (by decide : (4 : Int32) < (6 : Int32))).2.2.2 ?_
    show Steps _ _ _ (T56.setTop (mkF m 74 #[vR a1, vR a2, vI 0, vI 6, vI 6, vI 4] [])) _
    refine XS.aloadN X56.here hx rfl (hb hby d5_74) rfl rfl ?_
    show Steps _ _ _ (T56.setTop (mkF m 75 #[vR a1, vR a2, vI 0, vI 6, vI 6, vI 4] [iR a1])) _
    refine st57 _ ?_
    show Steps _ _ _ (T57.setTop (mkF m 78 #[vR a1, vR a2, vI 0, vI 6, vI 6, vI 4] [iI 1])) _
    refine XS.aloadN X57.here hx rfl (hb hby d5_78) rfl rfl ?_
    show Steps _ _ _ (T57.setTop (mkF m 79 #[vR a1, vR a2, vI 0, vI 6, vI 6, vI 4] [iR a1, iI 1])) _
    refine st59 _ ?_
    show Steps _ _ _ (T59.setTop (mkF m 82 #[vR a1, vR a2, vI 0, vI 6, vI 6, vI 4] [iR s1, iI 1])) _
    refine X59.arraylength hx (by rw [e59]; exact Ar61.1) (State.isArrayOf_alike hZ.alike Ar61.2.1) (g := (mkF m 82 #[vR a1, vR a2, vI 0, vI 6, vI 6, vI 4] [iR s1, iI 1])) rfl rfl (hb hby d5_82) _ ?_
    rw [len_of S61 M61]
    show Steps _ _ _ (T59.setTop (mkF m 83 #[vR a1, vR a2, vI 0, vI 6, vI 6, vI 4] [iI 16, iI 1])) _
    refine XS.icmpYes X59.here hx rfl (pc0 := 83) (pc' := 120) rfl (hb hby d5_83) rfl (feq (by decide : ¬ ((1 : Int32) = (16 : Int32)))).2 (by decide) (by decide) ?_
    show Steps _ _ _ (T59.setTop (mkF m 120 #[vR a1, vR a2, vI 0, vI 6, vI 6, vI 4] [])) _
    refine XS.aloadN X59.here hx rfl (hb hby d5_120) rfl rfl ?_
    show Steps _ _ _ (T59.setTop (mkF m 121 #[vR a1, vR a2, vI 0, vI 6, vI 6, vI 4] [iR a1])) _
    refine st62 _ ?_
    show Steps _ _ _ (T62.setTop (mkF m 124 #[vR a1, vR a2, vI 0, vI 6, vI 6, vI 4] [iR s1])) _
    refine XS.aloadN X62.here hx rfl (hb hby d5_124) rfl rfl ?_
    show Steps _ _ _ (T62.setTop (mkF m 125 #[vR a1, vR a2, vI 0, vI 6, vI 6, vI 4] [iR a1, iR s1])) _
    refine st63 _ ?_
    show Steps _ _ _ (T63.setTop (mkF m 128 #[vR a1, vR a2, vI 0, vI 6, vI 6, vI 4] [iI 1, iR s1])) _
    refine XS.iload X63.here hx rfl (hb hby d5_128) rfl ?_
    show Steps _ _ _ (T63.setTop (mkF m 130 #[vR a1, vR a2, vI 0, vI 6, vI 6, vI 4] [iI 4, iI 1, iR s1])) _
    refine st65 _ ?_
    show Steps _ _ _ (T65.setTop (mkF m 131 #[vR a1, vR a2, vI 0, vI 6, vI 6, vI 4] [])) _
    refine XS.aloadN X65.here hx rfl (hb hby d5_131) rfl rfl ?_
    show Steps _ _ _ (T65.setTop (mkF m 132 #[vR a1, vR a2, vI 0, vI 6, vI 6, vI 4] [iR a1])) _
    refine st67 _ ?_
    show Steps _ _ _ (T67.setTop (mkF m 135 #[vR a1, vR a2, vI 0, vI 6, vI 6, vI 4] [iR s2])) _
    refine XS.aloadN X67.here hx rfl (hb hby d5_135) rfl rfl ?_
    show Steps _ _ _ (T67.setTop (mkF m 136 #[vR a1, vR a2, vI 0, vI 6, vI 6, vI 4] [iR a1, iR s2])) _
    refine st69 _ ?_
    show Steps _ _ _ (T69.setTop (mkF m 139 #[vR a1, vR a2, vI 0, vI 6, vI 6, vI 4] [iI 1, iR s2])) _
    refine XS.iload X69.here hx rfl (hb hby d5_139) rfl ?_
    show Steps _ _ _ (T69.setTop (mkF m 141 #[vR a1, vR a2, vI 0, vI 6, vI 6, vI 4] [iI 6, iI 1, iR s2])) _
    refine st73 _ ?_
    show Steps _ _ _ (T73.setTop (mkF m 142 #[vR a1, vR a2, vI 0, vI 6, vI 6, vI 4] [])) _
    refine XS.aloadN X73.here hx rfl (hb hby d5_142) rfl rfl ?_
    show Steps _ _ _ (T73.setTop (mkF m 143 #[vR a1, vR a2, vI 0, vI 6, vI 6, vI 4] [iR a1])) _
    refine XS.dup X73.here hx rfl (hb hby d5_143) rfl rfl ?_
    show Steps _ _ _ (T73.setTop (mkF m 144 #[vR a1, vR a2, vI 0, vI 6, vI 6, vI 4] [iR a1, iR a1])) _
    refine st75 _ ?_
    show Steps _ _ _ (T75.setTop (mkF m 147 #[vR a1, vR a2, vI 0, vI 6, vI 6, vI 4] [iI 1, iR a1])) _
    refine XS.iconst X75.here hx rfl (hb hby d5_147) ?_
    show Steps _ _ _ (T75.setTop (mkF m 148 #[vR a1, vR a2, vI 0, vI 6, vI 6, vI 4] [iI 1, iI 1, iR a1])) _
    refine XS.iadd X75.here hx rfl (hb hby d5_148) rfl ?_
    rw [(by decide : ((1 : Int32) + (1 : Int32)) = (2 : Int32))]
    show Steps _ _ _ (T75.setTop (mkF m 149 #[vR a1, vR a2, vI 0, vI 6, vI 6, vI 4] [iI 2, iR a1])) _
    refine st77 _ ?_
    show Steps _ _ _ (T77.setTop (mkF m 152 #[vR a1, vR a2, vI 0, vI 6, vI 6, vI 4] [])) _
    refine XS.goto X77.here hx rfl (pc0 := 152) (pc' := 13) rfl (hb hby d5_152) (by decide) (by decide) ?_
    show Steps _ _ _ (T77.setTop (mkF m 13 #[vR a1, vR a2, vI 0, vI 6, vI 6, vI 4] [])) _
    refine XS.iload X77.here hx rfl (hb hby d5_13) rfl ?_
    show Steps _ _ _ (T77.setTop (mkF m 15 #[vR a1, vR a2, vI 0, vI 6, vI 6, vI 4] [iI 6])) _
    refine XS.iloadN X77.here hx rfl (hb hby d5_15) rfl ?_
    show Steps _ _ _ (T77.setTop (mkF m 16 #[vR a1, vR a2, vI 0, vI 6, vI 6, vI 4] [iI 6, iI 6])) _
    refine XS.icmpYes X77.here hx rfl (pc0 := 16) (pc' := 155) rfl (hb hby d5_16) rfl (flt (by decide : ¬ ((6 : Int32) < (6 : Int32)))).2.1 (by decide) (by decide) ?_
    show Steps _ _ _ (T77.setTop (mkF m 155 #[vR a1, vR a2, vI 0, vI 6, vI 6, vI 4] [])) _
    exact X77.returnOut hx Bd.returns (hb hby d5_155) hr
  · show Q5_0_6 Z a1 a2 s1 s2 k1 k2 kl x0 x1 x2 x3 x4 x5 x6 h0 n0 _ T77.heap _
    rw [e77]
    exact ⟨rfl, N77, K77, fk78, fk79, fk80, fk81, fk82, fk83⟩
theorem ef_5_0_7 (m : MethodId) (x0 : Addr) (x1 : Addr) : entryFrame m #[(.ref x0), (.ref x1), (.int (0 : Int32)), (.int (7 : Int32))] 6 = mkF m 0 #[.val (.ref x0), .val (.ref x1), .val (.int (0 : Int32)), .val (.int (7 : Int32)), .unset, .unset] [] := by first | (simp [entryFrame, mkF, argsToLocals, Value.category]; done) | rfl
def Q5_0_7 (Z : State) (a1 : Addr) (a2 : Addr) (s1 s2 : Addr) (k1 k2 kl : ClassId) (x0 : Int32) (x1 : Int32) (x2 : Int32) (x3 : Int32) (x4 : Int32) (x5 : Int32) (x6 : Int32) (h0 : Heap) (n0 : Nat) (v : Option Value) (h : Heap) (L : List Loc) : Prop := v = none ∧ Fr n0 L ∧ Keep h0 h [a1, s1, s2] ∧ Exa Z h a1 "com/example/tidemine/tidemine/TextFormat$Tokens" ∧ Fld Z h a1 "com/example/tidemine/tidemine/TextFormat$Tokens" "line" "[B" (.ref a2) ∧ Fld Z h a1 "com/example/tidemine/tidemine/TextFormat$Tokens" "starts" "[I" (.ref s1) ∧ Fld Z h a1 "com/example/tidemine/tidemine/TextFormat$Tokens" "ends" "[I" (.ref s2) ∧ Arv Z h s1 k1 .int (16 : Int32) [(.int (0 : Int32)), (.int (4 : Int32)), (.int (0 : Int32)), (.int (0 : Int32)), (.int (0 : Int32)), (.int (0 : Int32)), (.int (0 : Int32)), (.int (0 : Int32)), (.int (0 : Int32)), (.int (0 : Int32)), (.int (0 : Int32)), (.int (0 : Int32)), (.int (0 : Int32)), (.int (0 : Int32)), (.int (0 : Int32)), (.int (0 : Int32))] (.int (0 : Int32)) ∧ Arv Z h s2 k2 .int (16 : Int32) [(.int (3 : Int32)), (.int (7 : Int32)), (.int (0 : Int32)), (.int (0 : Int32)), (.int (0 : Int32)), (.int (0 : Int32)), (.int (0 : Int32)), (.int (0 : Int32)), (.int (0 : Int32)), (.int (0 : Int32)), (.int (0 : Int32)), (.int (0 : Int32)), (.int (0 : Int32)), (.int (0 : Int32)), (.int (0 : Int32)), (.int (0 : Int32))] (.int (0 : Int32))
set_option maxRecDepth 65536 in
set_option maxHeartbeats 40000000 in
theorem rm5_0_7 (l : Launch) (Z : State) (a0 : Array Value) (hw : ∀ d ∈ tables_1, d.before a0 Z = true) (ws : List Jvm.Cond) (a1 : Addr) (a2 : Addr) (s1 s2 : Addr) (k1 k2 kl : ClassId) (x0 : Int32) (x1 : Int32) (x2 : Int32) (x3 : Int32) (x4 : Int32) (x5 : Int32) (x6 : Int32) (h0 : Heap) (n0 : Nat) (Z0 : n0 ≤ h0.size) (E_a1 : Exa Z h0 a1 "com/example/tidemine/tidemine/TextFormat$Tokens") (g_a1 : n0 ≤ a1) (g_s1 : n0 ≤ s1) (g_s2 : n0 ≤ s2) (F_line : Fld Z h0 a1 "com/example/tidemine/tidemine/TextFormat$Tokens" "line" "[B" .null) (F_starts : Fld Z h0 a1 "com/example/tidemine/tidemine/TextFormat$Tokens" "starts" "[I" (.ref s1)) (F_ends : Fld Z h0 a1 "com/example/tidemine/tidemine/TextFormat$Tokens" "ends" "[I" (.ref s2)) (F_count : Fld Z h0 a1 "com/example/tidemine/tidemine/TextFormat$Tokens" "count" "I" (.int (0 : Int32))) (V_1 : Arv Z h0 s1 k1 .int (16 : Int32) [(.int (0 : Int32)), (.int (0 : Int32)), (.int (0 : Int32)), (.int (0 : Int32)), (.int (0 : Int32)), (.int (0 : Int32)), (.int (0 : Int32)), (.int (0 : Int32)), (.int (0 : Int32)), (.int (0 : Int32)), (.int (0 : Int32)), (.int (0 : Int32)), (.int (0 : Int32)), (.int (0 : Int32)), (.int (0 : Int32)), (.int (0 : Int32))] (.int (0 : Int32))) (V_2 : Arv Z h0 s2 k2 .int (16 : Int32) [(.int (0 : Int32)), (.int (0 : Int32)), (.int (0 : Int32)), (.int (0 : Int32)), (.int (0 : Int32)), (.int (0 : Int32)), (.int (0 : Int32)), (.int (0 : Int32)), (.int (0 : Int32)), (.int (0 : Int32)), (.int (0 : Int32)), (.int (0 : Int32)), (.int (0 : Int32)), (.int (0 : Int32)), (.int (0 : Int32)), (.int (0 : Int32))] (.int (0 : Int32))) (V_l : Arv Z h0 a2 kl .byte (7 : Int32) [(.int x0), (.int x1), (.int x2), (.int x3), (.int x4), (.int x5), (.int x6)] (.int (0 : Int32))) (ne_a1_a2 : a1 ≠ a2) (ne_a1_s1 : a1 ≠ s1) (ne_a1_s2 : a1 ≠ s2) (ne_a2_s1 : a2 ≠ s1) (ne_a2_s2 : a2 ≠ s2) (ne_s1_s2 : s1 ≠ s2) (hx0 : (own_sep x0) = (0 : Int32)) (hx1 : (own_sep x1) = (0 : Int32)) (hx2 : (own_sep x2) = (0 : Int32)) (hx3 : ¬ (own_sep x3) = (0 : Int32)) (hx4 : (own_sep x4) = (0 : Int32)) (hx5 : (own_sep x5) = (0 : Int32)) (hx6 : (own_sep x6) = (0 : Int32)) :
    MetFree l (⟨"com/example/tidemine/tidemine/TextFormat$Tokens", "split", "([BII)V"⟩ : MethodName) (head1 (Jvm.Cond.code (⟨"com/example/tidemine/tidemine/TextFormat$Tokens", "split", "([BII)V"⟩ : MethodName) prog_41_method_2_code 6 none :: ws) ({ frames := 1, cells := 0, slots := 0, locals := 12 } : Room)) (fun a U => a = #[(.ref a1), (.ref a2), (.int (0 : Int32)), (.int (7 : Int32))] ∧ Z.Warmed39 U.vm ∧ U.heap = h0) (fun _ _ _ _ _ => True) (fun _ U o U' => ∃ v L, o = .returned v ∧ Q5_0_7 Z a1 a2 s1 s2 k1 k2 kl x0 x1 x2 x3 x4 x5 x6 h0 n0 v U'.heap L ∧ FrameEnd U o U' L ({ frames := 1, cells := 0, slots := 0, locals := 12 } : Room).cells ({ frames := 1, cells := 0, slots := 0, locals := 12 } : Room).slots) := by
  refine MetFree.of_bodySF (plainFor_of_name pn_2) hisR ?_
  intro p e s m args below meth c s₁ Bd hml0 hP hK
  obtain ⟨rfl, hZ, hh⟩ := hP
  have hx := Bd.exec
  have hby := Bd.bytes
  have hml : c.maxLocals = 6 := hml0
  have hown : s.vm.findClass "com/example/tidemine/tidemine/TextFormat$Tokens" = some m.cls := findClass_of_methodNamed Bd.named
  have hnm := (name_of_methodNamed Bd.named Bd.method).1
  have X0 : Stand p l e ({ frames := 1, cells := 0, slots := 0, locals := 12 } : Room) s m #[(.ref a1), (.ref a2), (.int (0 : Int32)), (.int (7 : Int32))] below meth c s₁ [] 0 0 := Stand.of_body Bd
  have e0 : s₁.heap = h0 := by rw [← hh, Bd.state]; rfl
  have N0 := Fr.nil n0
  have K0 := Keep.refl h0 [a1, s1, s2]
  have pre0 : ∀ t, Steps p.tables e below (s₁.setTop (mkF m 0 #[.val (.ref a1), .val (.ref a2), .val (.int (0 : Int32)), .val (.int (7 : Int32)), .unset, .unset] [])) t → Steps p.tables e below (s₁.setTop (entryFrame m #[(.ref a1), (.ref a2), (.int (0 : Int32)), (.int (7 : Int32))] 6)) t := fun t k => castTop (ef_5_0_7 m a1 a2) k
  obtain ⟨T1, h1, X1, e1, W1, st1⟩ := putF X0 hx hZ hown (host := "") (Or.inl (hw _ (List.mem_of_getElem? (i := 28) rfl))) Via.refl e0 F_line E_a1 (Or.inl (hw _ (List.mem_of_getElem? (i := 29) rfl))) (hw _ (List.mem_of_getElem? (i := 10) rfl)) (ty := (.array .byte)) (by decide) rfl rfl (g := (mkF m 2 #[vR a1, vR a2, vI 0, vI 7, .unset, .unset] [iR a2, iR a1])) rfl rfl (hb hby d5_2)
  have Fw1 := F_line.same W1
  have K1 : Keep h0 h1 [a1, s1, s2] := K0.wr W1 (Or.inl (List.mem_of_getElem? (i := 0) rfl))
  have N1 := Fr.snoc X1 N0 g_a1
  have fk2 := (F_count.other W1 (Or.inr (slot_ne (Or.inl (hw _ (List.mem_of_getElem? (i := 31) rfl))) (Or.inl (hw _ (List.mem_of_getElem? (i := 29) rfl))) (by decide) (t := .int) (t' := (.array .byte)) (by decide) (by decide))))
  have fk3 := (E_a1.wr W1)
  obtain ⟨T4, h4, X4, e4, W4, st4⟩ := putF X1 hx hZ hown (host := "") (Or.inl (hw _ (List.mem_of_getElem? (i := 30) rfl))) Via.refl e1 fk2 fk3 (Or.inl (hw _ (List.mem_of_getElem? (i := 31) rfl))) (hw _ (List.mem_of_getElem? (i := 10) rfl)) (ty := .int) (by decide) rfl rfl (g := (mkF m 7 #[vR a1, vR a2, vI 0, vI 7, .unset, .unset] [iI 0, iR a1])) rfl rfl (hb hby d5_7)
  have Fw4 := fk2.same W4
  have K4 : Keep h0 h4 [a1, s1, s2] := K1.wr W4 (Or.inl (List.mem_of_getElem? (i := 0) rfl))
  have N4 := Fr.snoc X4 N1 g_a1
  have fk5 := ((V_l.other W1 (Ne.symm ne_a1_a2)).other W4 (Ne.symm ne_a1_a2))
  obtain ⟨cl6, Ar6, q6, S6, M6, H6, G6⟩ := id fk5
  have hin7 : ¬ ((0 : Int32) < 0 ∨ cl6.slots.size ≤ ((0 : Int32)).toNatClampNeg) := inb_of S6 ⟨by decide, by decide⟩
  have hat8 : cl6.slots[((0 : Int32)).toNatClampNeg]? = some (.int x0) := Has.at H6 hin7 rfl
  obtain ⟨_, _, ⟨T9, L9, k9, n9⟩, -, X9, ⟨Lc9, hQ9, l9, y9, z9⟩, st9⟩ := callSN X4 hx (y := (⟨"com/example/tidemine/tidemine/TextFormat", "isSeparator", "(B)Z"⟩ : MethodName)) hown (Cond.methodLinkNest_wide hZ (hw _ (List.mem_of_getElem? (i := 32) rfl))) (mvT hZ (hw _ (List.mem_of_getElem? (i := 33) rfl))) (mvT hZ (hw _ (List.mem_of_getElem? (i := 34) rfl))) (mvT hZ (hw _ (List.mem_of_getElem? (i := 35) rfl))) (by decide) (backOf (W := 0) (rm6 l Z a0 hw [] x0 h4 ) hZ (hw _ (List.mem_of_getElem? (i := 35) rfl)) (hw _ (List.mem_of_getElem? (i := 34) rfl)) (by decide) (by decide)) (g := (mkF m 29 #[vR a1, vR a2, vI 0, vI 7, vI 0, .unset] [iI x0])) rfl (by rw [hml]; rfl) (argsL := [(.int x0)]) (rest := []) (lenOf pd_0 rfl) rfl (by show 2 * 0 + _ ≤ _; exact Nat.le_of_eq rfl) (hb hby d5_29) (fun _ _ => ⟨rfl, e4, (by decide : 0 + 0 ≤ _), (by decide : 0 + 0 ≤ _)⟩)
  dsimp only [Pt.U, Pt.locs, Pt.cells, Pt.slots] at X9 l9 y9 z9 st9 hQ9
  subst l9 y9 z9
  obtain ⟨rfl, rfl, e9⟩ := hQ9
  try rw [List.append_nil] at X9
  have hin10 : ¬ ((0 : Int32) < 0 ∨ cl6.slots.size ≤ ((0 : Int32)).toNatClampNeg) := inb_of S6 ⟨by decide, by decide⟩
  have hat11 : cl6.slots[((0 : Int32)).toNatClampNeg]? = some (.int x0) := Has.at H6 hin10 rfl
  obtain ⟨_, _, ⟨T12, L12, k12, n12⟩, -, X12, ⟨Lc12, hQ12, l12, y12, z12⟩, st12⟩ := callSN X9 hx (y := (⟨"com/example/tidemine/tidemine/TextFormat", "isSeparator", "(B)Z"⟩ : MethodName)) hown (Cond.methodLinkNest_wide hZ (hw _ (List.mem_of_getElem? (i := 32) rfl))) (mvT hZ (hw _ (List.mem_of_getElem? (i := 33) rfl))) (mvT hZ (hw _ (List.mem_of_getElem? (i := 34) rfl))) (mvT hZ (hw _ (List.mem_of_getElem? (i := 35) rfl))) (by decide) (backOf (W := 0) (rm6 l Z a0 hw [] x0 h4 ) hZ (hw _ (List.mem_of_getElem? (i := 35) rfl)) (hw _ (List.mem_of_getElem? (i := 34) rfl)) (by decide) (by decide)) (g := (mkF m 55 #[vR a1, vR a2, vI 0, vI 7, vI 0, vI 0] [iI x0])) rfl (by rw [hml]; rfl) (argsL := [(.int x0)]) (rest := []) (lenOf pd_0 rfl) rfl (by show 2 * 0 + _ ≤ _; exact Nat.le_of_eq rfl) (hb hby d5_55) (fun _ _ => ⟨rfl, e9, (by decide : 0 + 0 ≤ _), (by decide : 0 + 0 ≤ _)⟩)
  dsimp only [Pt.U, Pt.locs, Pt.cells, Pt.slots] at X12 l12 y12 z12 st12 hQ12
  subst l12 y12 z12
  obtain ⟨rfl, rfl, e12⟩ := hQ12
  try rw [List.append_nil] at X12
  have hin13 : ¬ ((1 : Int32) < 0 ∨ cl6.slots.size ≤ ((1 : Int32)).toNatClampNeg) := inb_of S6 ⟨by decide, by decide⟩
  have hat14 : cl6.slots[((1 : Int32)).toNatClampNeg]? = some (.int x1) := Has.at H6 hin13 rfl
  obtain ⟨_, _, ⟨T15, L15, k15, n15⟩, -, X15, ⟨Lc15, hQ15, l15, y15, z15⟩, st15⟩ := callSN X12 hx (y := (⟨"com/example/tidemine/tidemine/TextFormat", "isSeparator", "(B)Z"⟩ : MethodName)) hown (Cond.methodLinkNest_wide hZ (hw _ (List.mem_of_getElem? (i := 32) rfl))) (mvT hZ (hw _ (List.mem_of_getElem? (i := 33) rfl))) (mvT hZ (hw _ (List.mem_of_getElem? (i := 34) rfl))) (mvT hZ (hw _ (List.mem_of_getElem? (i := 35) rfl))) (by decide) (backOf (W := 0) (rm6 l Z a0 hw [] x1 h4 ) hZ (hw _ (List.mem_of_getElem? (i := 35) rfl)) (hw _ (List.mem_of_getElem? (i := 34) rfl)) (by decide) (by decide)) (g := (mkF m 55 #[vR a1, vR a2, vI 0, vI 7, vI 1, vI 0] [iI x1])) rfl (by rw [hml]; rfl) (argsL := [(.int x1)]) (rest := []) (lenOf pd_0 rfl) rfl (by show 2 * 0 + _ ≤ _; exact Nat.le_of_eq rfl) (hb hby d5_55) (fun _ _ => ⟨rfl, e12, (by decide : 0 + 0 ≤ _), (by decide : 0 + 0 ≤ _)⟩)
  dsimp only [Pt.U, Pt.locs, Pt.cells, Pt.slots] at X15 l15 y15 z15 st15 hQ15
  subst l15 y15 z15
  obtain ⟨rfl, rfl, e15⟩ := hQ15
  try rw [List.append_nil] at X15
  have hin16 : ¬ ((2 : Int32) < 0 ∨ cl6.slots.size ≤ ((2 : Int32)).toNatClampNeg) := inb_of S6 ⟨by decide, by decide⟩
  have hat17 : cl6.slots[((2 : Int32)).toNatClampNeg]? = some (.int x2) := Has.at H6 hin16 rfl
  obtain ⟨_, _, ⟨T18, L18, k18, n18⟩, -, X18, ⟨Lc18, hQ18, l18, y18, z18⟩, st18⟩ := callSN X15 hx (y := (⟨"com/example/tidemine/tidemine/TextFormat", "isSeparator", "(B)Z"⟩ : MethodName)) hown (Cond.methodLinkNest_wide hZ (hw _ (List.mem_of_getElem? (i := 32) rfl))) (mvT hZ (hw _ (List.mem_of_getElem? (i := 33) rfl))) (mvT hZ (hw _ (List.mem_of_getElem? (i := 34) rfl))) (mvT hZ (hw _ (List.mem_of_getElem? (i := 35) rfl))) (by decide) (backOf (W := 0) (rm6 l Z a0 hw [] x2 h4 ) hZ (hw _ (List.mem_of_getElem? (i := 35) rfl)) (hw _ (List.mem_of_getElem? (i := 34) rfl)) (by decide) (by decide)) (g := (mkF m 55 #[vR a1, vR a2, vI 0, vI 7, vI 2, vI 0] [iI x2])) rfl (by rw [hml]; rfl) (argsL := [(.int x2)]) (rest := []) (lenOf pd_0 rfl) rfl (by show 2 * 0 + _ ≤ _; exact Nat.le_of_eq rfl) (hb hby d5_55) (fun _ _ => ⟨rfl, e15, (by decide : 0 + 0 ≤ _), (by decide : 0 + 0 ≤ _)⟩)
  dsimp only [Pt.U, Pt.locs, Pt.cells, Pt.slots] at X18 l18 y18 z18 st18 hQ18
  subst l18 y18 z18
  obtain ⟨rfl, rfl, e18⟩ := hQ18
  try rw [List.append_nil] at X18
  have hin19 : ¬ ((3 : Int32) < 0 ∨ cl6.slots.size ≤ ((3 : Int32)).toNatClampNeg) := inb_of S6 ⟨by decide, by decide⟩
  have hat20 : cl6.slots[((3 : Int32)).toNatClampNeg]? = some (.int x3) := Has.at H6 hin19 rfl
  obtain ⟨_, _, ⟨T21, L21, k21, n21⟩, -, X21, ⟨Lc21, hQ21, l21, y21, z21⟩, st21⟩ := callSN X18 hx (y := (⟨"com/example/tidemine/tidemine/TextFormat", "isSeparator", "(B)Z"⟩ : MethodName)) hown (Cond.methodLinkNest_wide hZ (hw _ (List.mem_of_getElem? (i := 32) rfl))) (mvT hZ (hw _ (List.mem_of_getElem? (i := 33) rfl))) (mvT hZ (hw _ (List.mem_of_getElem? (i := 34) rfl))) (mvT hZ (hw _ (List.mem_of_getElem? (i := 35) rfl))) (by decide) (backOf (W := 0) (rm6 l Z a0 hw [] x3 h4 ) hZ (hw _ (List.mem_of_getElem? (i := 35) rfl)) (hw _ (List.mem_of_getElem? (i := 34) rfl)) (by decide) (by decide)) (g := (mkF m 55 #[vR a1, vR a2, vI 0, vI 7, vI 3, vI 0] [iI x3])) rfl (by rw [hml]; rfl) (argsL := [(.int x3)]) (rest := []) (lenOf pd_0 rfl) rfl (by show 2 * 0 + _ ≤ _; exact Nat.le_of_eq rfl) (hb hby d5_55) (fun _ _ => ⟨rfl, e18, (by decide : 0 + 0 ≤ _), (by decide : 0 + 0 ≤ _)⟩)
  dsimp only [Pt.U, Pt.locs, Pt.cells, Pt.slots] at X21 l21 y21 z21 st21 hQ21
  subst l21 y21 z21
  obtain ⟨rfl, rfl, e21⟩ := hQ21
  try rw [List.append_nil] at X21
  obtain ⟨T22, X22, e22, st22⟩ := getF X21 hx hZ hown (host := "") (Or.inl (hw _ (List.mem_of_getElem? (i := 30) rfl))) Via.refl e21 Fw4 (g := (mkF m 75 #[vR a1, vR a2, vI 0, vI 7, vI 3, vI 0] [iR a1])) rfl rfl (hb hby d5_75)
  have fk23 := ((F_starts.other W1 (Or.inr (slot_ne (Or.inl (hw _ (List.mem_of_getElem? (i := 20) rfl))) (Or.inl (hw _ (List.mem_of_getElem? (i := 29) rfl))) (by decide) (t := (.array .int)) (t' := (.array .byte)) (by decide) (by decide)))).other W4 (Or.inr (slot_ne (Or.inl (hw _ (List.mem_of_getElem? (i := 20) rfl))) (Or.inl (hw _ (List.mem_of_getElem? (i := 31) rfl))) (by decide) (t := (.array .int)) (t' := .int) (by decide) (by decide))))
  obtain ⟨T24, X24, e24, st24⟩ := getF X22 hx hZ hown (host := "") (Or.inl (hw _ (List.mem_of_getElem? (i := 19) rfl))) Via.refl e22 fk23 (g := (mkF m 79 #[vR a1, vR a2, vI 0, vI 7, vI 3, vI 0] [iR a1, iI 0])) rfl rfl (hb hby d5_79)
  have fk25 := ((V_1.other W1 (Ne.symm ne_a1_s1)).other W4 (Ne.symm ne_a1_s1))
  obtain ⟨cl26, Ar26, q26, S26, M26, H26, G26⟩ := id fk25
  obtain ⟨T27, X27, e27, st27⟩ := getF X24 hx hZ hown (host := "") (Or.inl (hw _ (List.mem_of_getElem? (i := 19) rfl))) Via.refl e24 fk23 (g := (mkF m 121 #[vR a1, vR a2, vI 0, vI 7, vI 3, vI 0] [iR a1])) rfl rfl (hb hby d5_121)
  obtain ⟨T28, X28, e28, st28⟩ := getF X27 hx hZ hown (host := "") (Or.inl (hw _ (List.mem_of_getElem? (i := 30) rfl))) Via.refl e27 Fw4 (g := (mkF m 125 #[vR a1, vR a2, vI 0, vI 7, vI 3, vI 0] [iR a1, iR s1])) rfl rfl (hb hby d5_125)
  have hin29 : ¬ ((0 : Int32) < 0 ∨ cl26.slots.size ≤ ((0 : Int32)).toNatClampNeg) := inb_of S26 ⟨by decide, by decide⟩
  obtain ⟨T30, h30, X30, e30, W30, st30⟩ := stI X28 hx hZ e28 Ar26 (j := (0 : Int32)) hin29 (g := (mkF m 130 #[vR a1, vR a2, vI 0, vI 7, vI 3, vI 0] [iI 0, iI 0, iR s1])) rfl rfl (hb hby d5_130)
  have V30 : Arv Z h30 s1 k1 .int (16 : Int32) [(.int (0 : Int32)), (.int (0 : Int32)), (.int (0 : Int32)), (.int (0 : Int32)), (.int (0 : Int32)), (.int (0 : Int32)), (.int (0 : Int32)), (.int (0 : Int32)), (.int (0 : Int32)), (.int (0 : Int32)), (.int (0 : Int32)), (.int (0 : Int32)), (.int (0 : Int32)), (.int (0 : Int32)), (.int (0 : Int32)), (.int (0 : Int32))] (.int (0 : Int32)) := Arv.set Ar26 q26 S26 M26 H26 G26 rfl W30 0 rfl (Nat.le_of_ble_eq_true rfl)
  have K30 : Keep h0 h30 [a1, s1, s2] := K4.wr W30 (Or.inl (List.mem_of_getElem? (i := 1) rfl))
  have N30 := Fr.snoc X30 N4 g_s1
  have fk31 := (((F_ends.other W1 (Or.inr (slot_ne (Or.inl (hw _ (List.mem_of_getElem? (i := 22) rfl))) (Or.inl (hw _ (List.mem_of_getElem? (i := 29) rfl))) (by decide) (t := (.array .int)) (t' := (.array .byte)) (by decide) (by decide)))).other W4 (Or.inr (slot_ne (Or.inl (hw _ (List.mem_of_getElem? (i := 22) rfl))) (Or.inl (hw _ (List.mem_of_getElem? (i := 31) rfl))) (by decide) (t := (.array .int)) (t' := .int) (by decide) (by decide)))).other W30 (Or.inl ne_a1_s1))
  obtain ⟨T32, X32, e32, st32⟩ := getF X30 hx hZ hown (host := "") (Or.inl (hw _ (List.mem_of_getElem? (i := 21) rfl))) Via.refl e30 fk31 (g := (mkF m 132 #[vR a1, vR a2, vI 0, vI 7, vI 3, vI 0] [iR a1])) rfl rfl (hb hby d5_132)
  have fk33 := (Fw4.other W30 (Or.inl ne_a1_s1))
  obtain ⟨T34, X34, e34, st34⟩ := getF X32 hx hZ hown (host := "") (Or.inl (hw _ (List.mem_of_getElem? (i := 30) rfl))) Via.refl e32 fk33 (g := (mkF m 136 #[vR a1, vR a2, vI 0, vI 7, vI 3, vI 0] [iR a1, iR s2])) rfl rfl (hb hby d5_136)
  have fk35 := (((V_2.other W1 (Ne.symm ne_a1_s2)).other W4 (Ne.symm ne_a1_s2)).other W30 (Ne.symm ne_s1_s2))
  obtain ⟨cl36, Ar36, q36, S36, M36, H36, G36⟩ := id fk35
  have hin37 : ¬ ((0 : Int32) < 0 ∨ cl36.slots.size ≤ ((0 : Int32)).toNatClampNeg) := inb_of S36 ⟨by decide, by decide⟩
  obtain ⟨T38, h38, X38, e38, W38, st38⟩ := stI X34 hx hZ e34 Ar36 (j := (0 : Int32)) hin37 (g := (mkF m 141 #[vR a1, vR a2, vI 0, vI 7, vI 3, vI 0] [iI 3, iI 0, iR s2])) rfl rfl (hb hby d5_141)
  have V38 : Arv Z h38 s2 k2 .int (16 : Int32) [(.int (3 : Int32)), (.int (0 : Int32)), (.int (0 : Int32)), (.int (0 : Int32)), (.int (0 : Int32)), (.int (0 : Int32)), (.int (0 : Int32)), (.int (0 : Int32)), (.int (0 : Int32)), (.int (0 : Int32)), (.int (0 : Int32)), (.int (0 : Int32)), (.int (0 : Int32)), (.int (0 : Int32)), (.int (0 : Int32)), (.int (0 : Int32))] (.int (0 : Int32)) := Arv.set Ar36 q36 S36 M36 H36 G36 rfl W38 0 rfl (Nat.le_of_ble_eq_true rfl)
  have K38 : Keep h0 h38 [a1, s1, s2] := K30.wr W38 (Or.inl (List.mem_of_getElem? (i := 2) rfl))
  have N38 := Fr.snoc X38 N30 g_s2
  have fk39 := (fk33.other W38 (Or.inl ne_a1_s2))
  obtain ⟨T40, X40, e40, st40⟩ := getF X38 hx hZ hown (host := "") (Or.inl (hw _ (List.mem_of_getElem? (i := 30) rfl))) Via.refl e38 fk39 (g := (mkF m 144 #[vR a1, vR a2, vI 0, vI 7, vI 3, vI 0] [iR a1, iR a1])) rfl rfl (hb hby d5_144)
  have fk41 := (((fk3.wr W4).wr W30).wr W38)
  obtain ⟨T42, h42, X42, e42, W42, st42⟩ := putF X40 hx hZ hown (host := "") (Or.inl (hw _ (List.mem_of_getElem? (i := 30) rfl))) Via.refl e40 fk39 fk41 (Or.inl (hw _ (List.mem_of_getElem? (i := 31) rfl))) (hw _ (List.mem_of_getElem? (i := 10) rfl)) (ty := .int) (by decide) rfl rfl (g := (mkF m 149 #[vR a1, vR a2, vI 0, vI 7, vI 3, vI 0] [iI 1, iR a1])) rfl rfl (hb hby d5_149)
  have Fw42 := fk39.same W42
  have K42 : Keep h0 h42 [a1, s1, s2] := K38.wr W42 (Or.inl (List.mem_of_getElem? (i := 0) rfl))
  have N42 := Fr.snoc X42 N38 g_a1
  have fk43 := (((fk5.other W30 ne_a2_s1).other W38 ne_a2_s2).other W42 (Ne.symm ne_a1_a2))
  obtain ⟨cl44, Ar44, q44, S44, M44, H44, G44⟩ := id fk43
  have hin45 : ¬ ((3 : Int32) < 0 ∨ cl44.slots.size ≤ ((3 : Int32)).toNatClampNeg) := inb_of S44 ⟨by decide, by decide⟩
  have hat46 : cl44.slots[((3 : Int32)).toNatClampNeg]? = some (.int x3) := Has.at H44 hin45 rfl
  obtain ⟨_, _, ⟨T47, L47, k47, n47⟩, -, X47, ⟨Lc47, hQ47, l47, y47, z47⟩, st47⟩ := callSN X42 hx (y := (⟨"com/example/tidemine/tidemine/TextFormat", "isSeparator", "(B)Z"⟩ : MethodName)) hown (Cond.methodLinkNest_wide hZ (hw _ (List.mem_of_getElem? (i := 32) rfl))) (mvT hZ (hw _ (List.mem_of_getElem? (i := 33) rfl))) (mvT hZ (hw _ (List.mem_of_getElem? (i := 34) rfl))) (mvT hZ (hw _ (List.mem_of_getElem? (i := 35) rfl))) (by decide) (backOf (W := 0) (rm6 l Z a0 hw [] x3 h42 ) hZ (hw _ (List.mem_of_getElem? (i := 35) rfl)) (hw _ (List.mem_of_getElem? (i := 34) rfl)) (by decide) (by decide)) (g := (mkF m 29 #[vR a1, vR a2, vI 0, vI 7, vI 3, vI 0] [iI x3])) rfl (by rw [hml]; rfl) (argsL := [(.int x3)]) (rest := []) (lenOf pd_0 rfl) rfl (by show 2 * 0 + _ ≤ _; exact Nat.le_of_eq rfl) (hb hby d5_29) (fun _ _ => ⟨rfl, e42, (by decide : 0 + 0 ≤ _), (by decide : 0 + 0 ≤ _)⟩)
  dsimp only [Pt.U, Pt.locs, Pt.cells, Pt.slots] at X47 l47 y47 z47 st47 hQ47
  subst l47 y47 z47
  obtain ⟨rfl, rfl, e47⟩ := hQ47
  try rw [List.append_nil] at X47
  have hin48 : ¬ ((4 : Int32) < 0 ∨ cl44.slots.size ≤ ((4 : Int32)).toNatClampNeg) := inb_of S44 ⟨by decide, by decide⟩
  have hat49 : cl44.slots[((4 : Int32)).toNatClampNeg]? = some (.int x4) := Has.at H44 hin48 rfl
  obtain ⟨_, _, ⟨T50, L50, k50, n50⟩, -, X50, ⟨Lc50, hQ50, l50, y50, z50⟩, st50⟩ := callSN X47 hx (y := (⟨"com/example/tidemine/tidemine/TextFormat", "isSeparator", "(B)Z"⟩ : MethodName)) hown (Cond.methodLinkNest_wide hZ (hw _ (List.mem_of_getElem? (i := 32) rfl))) (mvT hZ (hw _ (List.mem_of_getElem? (i := 33) rfl))) (mvT hZ (hw _ (List.mem_of_getElem? (i := 34) rfl))) (mvT hZ (hw _ (List.mem_of_getElem? (i := 35) rfl))) (by decide) (backOf (W := 0) (rm6 l Z a0 hw [] x4 h42 ) hZ (hw _ (List.mem_of_getElem? (i := 35) rfl)) (hw _ (List.mem_of_getElem? (i := 34) rfl)) (by decide) (by decide)) (g := (mkF m 29 #[vR a1, vR a2, vI 0, vI 7, vI 4, vI 0] [iI x4])) rfl (by rw [hml]; rfl) (argsL := [(.int x4)]) (rest := []) (lenOf pd_0 rfl) rfl (by show 2 * 0 + _ ≤ _; exact Nat.le_of_eq rfl) (hb hby d5_29) (fun _ _ => ⟨rfl, e47, (by decide : 0 + 0 ≤ _), (by decide : 0 + 0 ≤ _)⟩)
  dsimp only [Pt.U, Pt.locs, Pt.cells, Pt.slots] at X50 l50 y50 z50 st50 hQ50
  subst l50 y50 z50
  obtain ⟨rfl, rfl, e50⟩ := hQ50
  try rw [List.append_nil] at X50
  have hin51 : ¬ ((4 : Int32) < 0 ∨ cl44.slots.size ≤ ((4 : Int32)).toNatClampNeg) := inb_of S44 ⟨by decide, by decide⟩
  have hat52 : cl44.slots[((4 : Int32)).toNatClampNeg]? = some (.int x4) := Has.at H44 hin51 rfl
  obtain ⟨_, _, ⟨T53, L53, k53, n53⟩, -, X53, ⟨Lc53, hQ53, l53, y53, z53⟩, st53⟩ := callSN X50 hx (y := (⟨"com/example/tidemine/tidemine/TextFormat", "isSeparator", "(B)Z"⟩ : MethodName)) hown (Cond.methodLinkNest_wide hZ (hw _ (List.mem_of_getElem? (i := 32) rfl))) (mvT hZ (hw _ (List.mem_of_getElem? (i := 33) rfl))) (mvT hZ (hw _ (List.mem_of_getElem? (i := 34) rfl))) (mvT hZ (hw _ (List.mem_of_getElem? (i := 35) rfl))) (by decide) (backOf (W := 0) (rm6 l Z a0 hw [] x4 h42 ) hZ (hw _ (List.mem_of_getElem? (i := 35) rfl)) (hw _ (List.mem_of_getElem? (i := 34) rfl)) (by decide) (by decide)) (g := (mkF m 55 #[vR a1, vR a2, vI 0, vI 7, vI 4, vI 4] [iI x4])) rfl (by rw [hml]; rfl) (argsL := [(.int x4)]) (rest := []) (lenOf pd_0 rfl) rfl (by show 2 * 0 + _ ≤ _; exact Nat.le_of_eq rfl) (hb hby d5_55) (fun _ _ => ⟨rfl, e50, (by decide : 0 + 0 ≤ _), (by decide : 0 + 0 ≤ _)⟩)
  dsimp only [Pt.U, Pt.locs, Pt.cells, Pt.slots] at X53 l53 y53 z53 st53 hQ53
  subst l53 y53 z53
  obtain ⟨rfl, rfl, e53⟩ := hQ53
  try rw [List.append_nil] at X53
  have hin54 : ¬ ((5 : Int32) < 0 ∨ cl44.slots.size ≤ ((5 : Int32)).toNatClampNeg) := inb_of S44 ⟨by decide, by decide⟩
  have hat55 : cl44.slots[((5 : Int32)).toNatClampNeg]? = some (.int x5) := Has.at H44 hin54 rfl
  obtain ⟨_, _, ⟨T56, L56, k56, n56⟩, -, X56, ⟨Lc56, hQ56, l56, y56, z56⟩, st56⟩ := callSN X53 hx (y := (⟨"com/example/tidemine/tidemine/TextFormat", "isSeparator", "(B)Z"⟩ : MethodName)) hown (Cond.methodLinkNest_wide hZ (hw _ (List.mem_of_getElem? (i := 32) rfl))) (mvT hZ (hw _ (List.mem_of_getElem? (i := 33) rfl))) (mvT hZ (hw _ (List.mem_of_getElem? (i := 34) rfl))) (mvT hZ (hw _ (List.mem_of_getElem? (i := 35) rfl))) (by decide) (backOf (W := 0) (rm6 l Z a0 hw [] x5 h42 ) hZ (hw _ (List.mem_of_getElem? (i := 35) rfl)) (hw _ (List.mem_of_getElem? (i := 34) rfl)) (by decide) (by decide)) (g := (mkF m 55 #[vR a1, vR a2, vI 0, vI 7, vI 5, vI 4] [iI x5])) rfl (by rw [hml]; rfl) (argsL := [(.int x5)]) (rest := []) (lenOf pd_0 rfl) rfl (by show 2 * 0 + _ ≤ _; exact Nat.le_of_eq rfl) (hb hby d5_55) (fun _ _ => ⟨rfl, e53, (by decide : 0 + 0 ≤ _), (by decide : 0 + 0 ≤ _)⟩)
  dsimp only [Pt.U, Pt.locs, Pt.cells, Pt.slots] at X56 l56 y56 z56 st56 hQ56
  subst l56 y56 z56
  obtain ⟨rfl, rfl, e56⟩ := hQ56
  try rw [List.append_nil] at X56
  have hin57 : ¬ ((6 : Int32) < 0 ∨ cl44.slots.size ≤ ((6 : Int32)).toNatClampNeg) := inb_of S44 ⟨by decide, by decide⟩
  have hat58 : cl44.slots[((6 : Int32)).toNatClampNeg]? = some (.int x6) := Has.at H44 hin57 rfl
  obtain ⟨_, _, ⟨T59, L59, k59, n59⟩, -, X59, ⟨Lc59, hQ59, l59, y59, z59⟩, st59⟩ := callSN X56 hx (y := (⟨"com/example/tidemine/tidemine/TextFormat", "isSeparator", "(B)Z"⟩ : MethodName)) hown (Cond.methodLinkNest_wide hZ (hw _ (List.mem_of_getElem? (i := 32) rfl))) (mvT hZ (hw _ (List.mem_of_getElem? (i := 33) rfl))) (mvT hZ (hw _ (List.mem_of_getElem? (i := 34) rfl))) (mvT hZ (hw _ (List.mem_of_getElem? (i := 35) rfl))) (by decide) (backOf (W := 0) (rm6 l Z a0 hw [] x6 h42 ) hZ (hw _ (List.mem_of_getElem? (i := 35) rfl)) (hw _ (List.mem_of_getElem? (i := 34) rfl)) (by decide) (by decide)) (g := (mkF m 55 #[vR a1, vR a2, vI 0, vI 7, vI 6, vI 4] [iI x6])) rfl (by rw [hml]; rfl) (argsL := [(.int x6)]) (rest := []) (lenOf pd_0 rfl) rfl (by show 2 * 0 + _ ≤ _; exact Nat.le_of_eq rfl) (hb hby d5_55) (fun _ _ => ⟨rfl, e56, (by decide : 0 + 0 ≤ _), (by decide : 0 + 0 ≤ _)⟩)
  dsimp only [Pt.U, Pt.locs, Pt.cells, Pt.slots] at X59 l59 y59 z59 st59 hQ59
  subst l59 y59 z59
  obtain ⟨rfl, rfl, e59⟩ := hQ59
  try rw [List.append_nil] at X59
  obtain ⟨T60, X60, e60, st60⟩ := getF X59 hx hZ hown (host := "") (Or.inl (hw _ (List.mem_of_getElem? (i := 30) rfl))) Via.refl e59 Fw42 (g := (mkF m 75 #[vR a1, vR a2, vI 0, vI 7, vI 7, vI 4] [iR a1])) rfl rfl (hb hby d5_75)
  have fk61 := (((fk23.other W30 (Or.inl ne_a1_s1)).other W38 (Or.inl ne_a1_s2)).other W42 (Or.inr (slot_ne (Or.inl (hw _ (List.mem_of_getElem? (i := 20) rfl))) (Or.inl (hw _ (List.mem_of_getElem? (i := 31) rfl))) (by decide) (t := (.array .int)) (t' := .int) (by decide) (by decide))))
  obtain ⟨T62, X62, e62, st62⟩ := getF X60 hx hZ hown (host := "") (Or.inl (hw _ (List.mem_of_getElem? (i := 19) rfl))) Via.refl e60 fk61 (g := (mkF m 79 #[vR a1, vR a2, vI 0, vI 7, vI 7, vI 4] [iR a1, iI 1])) rfl rfl (hb hby d5_79)
  have fk63 := ((V30.other W38 ne_s1_s2).other W42 (Ne.symm ne_a1_s1))
  obtain ⟨cl64, Ar64, q64, S64, M64, H64, G64⟩ := id fk63
  obtain ⟨T65, X65, e65, st65⟩ := getF X62 hx hZ hown (host := "") (Or.inl (hw _ (List.mem_of_getElem? (i := 19) rfl))) Via.refl e62 fk61 (g := (mkF m 121 #[vR a1, vR a2, vI 0, vI 7, vI 7, vI 4] [iR a1])) rfl rfl (hb hby d5_121)
  obtain ⟨T66, X66, e66, st66⟩ := getF X65 hx hZ hown (host := "") (Or.inl (hw _ (List.mem_of_getElem? (i := 30) rfl))) Via.refl e65 Fw42 (g := (mkF m 125 #[vR a1, vR a2, vI 0, vI 7, vI 7, vI 4] [iR a1, iR s1])) rfl rfl (hb hby d5_125)
  have hin67 : ¬ ((1 : Int32) < 0 ∨ cl64.slots.size ≤ ((1 : Int32)).toNatClampNeg) := inb_of S64 ⟨by decide, by decide⟩
  obtain ⟨T68, h68, X68, e68, W68, st68⟩ := stI X66 hx hZ e66 Ar64 (j := (1 : Int32)) hin67 (g := (mkF m 130 #[vR a1, vR a2, vI 0, vI 7, vI 7, vI 4] [iI 4, iI 1, iR s1])) rfl rfl (hb hby d5_130)
  have V68 : Arv Z h68 s1 k1 .int (16 : Int32) [(.int (0 : Int32)), (.int (4 : Int32)), (.int (0 : Int32)), (.int (0 : Int32)), (.int (0 : Int32)), (.int (0 : Int32)), (.int (0 : Int32)), (.int (0 : Int32)), (.int (0 : Int32)), (.int (0 : Int32)), (.int (0 : Int32)), (.int (0 : Int32)), (.int (0 : Int32)), (.int (0 : Int32)), (.int (0 : Int32)), (.int (0 : Int32))] (.int (0 : Int32)) := Arv.set Ar64 q64 S64 M64 H64 G64 rfl W68 1 rfl (Nat.le_of_ble_eq_true rfl)
  have K68 : Keep h0 h68 [a1, s1, s2] := K42.wr W68 (Or.inl (List.mem_of_getElem? (i := 1) rfl))
  have N68 := Fr.snoc X68 N42 g_s1
  have fk69 := (((fk31.other W38 (Or.inl ne_a1_s2)).other W42 (Or.inr (slot_ne (Or.inl (hw _ (List.mem_of_getElem? (i := 22) rfl))) (Or.inl (hw _ (List.mem_of_getElem? (i := 31) rfl))) (by decide) (t := (.array .int)) (t' := .int) (by decide) (by decide)))).other W68 (Or.inl ne_a1_s1))
  obtain ⟨T70, X70, e70, st70⟩ := getF X68 hx hZ hown (host := "") (Or.inl (hw _ (List.mem_of_getElem? (i := 21) rfl))) Via.refl e68 fk69 (g := (mkF m 132 #[vR a1, vR a2, vI 0, vI 7, vI 7, vI 4] [iR a1])) rfl rfl (hb hby d5_132)
  have fk71 := (Fw42.other W68 (Or.inl ne_a1_s1))
  obtain ⟨T72, X72, e72, st72⟩ := getF X70 hx hZ hown (host := "") (Or.inl (hw _ (List.mem_of_getElem? (i := 30) rfl))) Via.refl e70 fk71 (g := (mkF m 136 #[vR a1, vR a2, vI 0, vI 7, vI 7, vI 4] [iR a1, iR s2])) rfl rfl (hb hby d5_136)
  have fk73 := ((V38.other W42 (Ne.symm ne_a1_s2)).other W68 (Ne.symm ne_s1_s2))
  obtain ⟨cl74, Ar74, q74, S74, M74, H74, G74⟩ := id fk73
  have hin75 : ¬ ((1 : Int32) < 0 ∨ cl74.slots.size ≤ ((1 : Int32)).toNatClampNeg) := inb_of S74 ⟨by decide, by decide⟩
  obtain ⟨T76, h76, X76, e76, W76, st76⟩ := stI X72 hx hZ e72 Ar74 (j := (1 : Int32)) hin75 (g := (mkF m 141 #[vR a1, vR a2, vI 0, vI 7, vI 7, vI 4] [iI 7, iI 1, iR s2])) rfl rfl (hb hby d5_141)
  have V76 : Arv Z h76 s2 k2 .int (16 : Int32) [(.int (3 : Int32)), (.int (7 : Int32)), (.int (0 : Int32)), (.int (0 : Int32)), (.int (0 : Int32)), (.int (0 : Int32)), (.int (0 : Int32)), (.int (0 : Int32)), (.int (0 : Int32)), (.int (0 : Int32)), (.int (0 : Int32)), (.int (0 : Int32)), (.int (0 : Int32)), (.int (0 : Int32)), (.int (0 : Int32)), (.int (0 : Int32))] (.int (0 : Int32)) := Arv.set Ar74 q74 S74 M74 H74 G74 rfl W76 1 rfl (Nat.le_of_ble_eq_true rfl)
  have K76 : Keep h0 h76 [a1, s1, s2] := K68.wr W76 (Or.inl (List.mem_of_getElem? (i := 2) rfl))
  have N76 := Fr.snoc X76 N68 g_s2
  have fk77 := (fk71.other W76 (Or.inl ne_a1_s2))
  obtain ⟨T78, X78, e78, st78⟩ := getF X76 hx hZ hown (host := "") (Or.inl (hw _ (List.mem_of_getElem? (i := 30) rfl))) Via.refl e76 fk77 (g := (mkF m 144 #[vR a1, vR a2, vI 0, vI 7, vI 7, vI 4] [iR a1, iR a1])) rfl rfl (hb hby d5_144)
  have fk79 := (((fk41.wr W42).wr W68).wr W76)
  obtain ⟨T80, h80, X80, e80, W80, st80⟩ := putF X78 hx hZ hown (host := "") (Or.inl (hw _ (List.mem_of_getElem? (i := 30) rfl))) Via.refl e78 fk77 fk79 (Or.inl (hw _ (List.mem_of_getElem? (i := 31) rfl))) (hw _ (List.mem_of_getElem? (i := 10) rfl)) (ty := .int) (by decide) rfl rfl (g := (mkF m 149 #[vR a1, vR a2, vI 0, vI 7, vI 7, vI 4] [iI 2, iR a1])) rfl rfl (hb hby d5_149)
  have Fw80 := fk77.same W80
  have K80 : Keep h0 h80 [a1, s1, s2] := K76.wr W80 (Or.inl (List.mem_of_getElem? (i := 0) rfl))
  have N80 := Fr.snoc X80 N76 g_a1
  obtain ⟨fs, hr, hrun, hended, hW, hsame⟩ := X80.leave (v := none) (fun _ => rfl)
  have fk81 := (fk79.wr W80)
  have fk82 := (((((((Fw1.other W4 (Or.inr (slot_ne (Or.inl (hw _ (List.mem_of_getElem? (i := 29) rfl))) (Or.inl (hw _ (List.mem_of_getElem? (i := 31) rfl))) (by decide) (t := (.array .byte)) (t' := .int) (by decide) (by decide)))).other W30 (Or.inl ne_a1_s1)).other W38 (Or.inl ne_a1_s2)).other W42 (Or.inr (slot_ne (Or.inl (hw _ (List.mem_of_getElem? (i := 29) rfl))) (Or.inl (hw _ (List.mem_of_getElem? (i := 31) rfl))) (by decide) (t := (.array .byte)) (t' := .int) (by decide) (by decide)))).other W68 (Or.inl ne_a1_s1)).other W76 (Or.inl ne_a1_s2)).other W80 (Or.inr (slot_ne (Or.inl (hw _ (List.mem_of_getElem? (i := 29) rfl))) (Or.inl (hw _ (List.mem_of_getElem? (i := 31) rfl))) (by decide) (t := (.array .byte)) (t' := .int) (by decide) (by decide))))
  have fk83 := (((fk61.other W68 (Or.inl ne_a1_s1)).other W76 (Or.inl ne_a1_s2)).other W80 (Or.inr (slot_ne (Or.inl (hw _ (List.mem_of_getElem? (i := 20) rfl))) (Or.inl (hw _ (List.mem_of_getElem? (i := 31) rfl))) (by decide) (t := (.array .int)) (t' := .int) (by decide) (by decide))))
  have fk84 := ((fk69.other W76 (Or.inl ne_a1_s2)).other W80 (Or.inr (slot_ne (Or.inl (hw _ (List.mem_of_getElem? (i := 22) rfl))) (Or.inl (hw _ (List.mem_of_getElem? (i := 31) rfl))) (by decide) (t := (.array .int)) (t' := .int) (by decide) (by decide))))
  have fk85 := ((V68.other W76 ne_s1_s2).other W80 (Ne.symm ne_a1_s1))
  have fk86 := (V76.other W80 (Ne.symm ne_a1_s2))
  refine ⟨_, _, pre0 _ ?_, hrun, hended, _, _, rfl, ?_, ⟨_, rfl⟩, hW, hsame.mono (by decide) (by decide)⟩
  · show Steps _ _ _ (s₁.setTop (mkF m 0 #[vR a1, vR a2, vI 0, vI 7, .unset, .unset] [])) _
    refine XS.aloadN X0.here hx rfl (hb hby d5_0) rfl rfl ?_
    show Steps _ _ _ (s₁.setTop (mkF m 1 #[vR a1, vR a2, vI 0, vI 7, .unset, .unset] [iR a1])) _
    refine XS.aloadN X0.here hx rfl (hb hby d5_1) rfl rfl ?_
    show Steps _ _ _ (s₁.setTop (mkF m 2 #[vR a1, vR a2, vI 0, vI 7, .unset, .unset] [iR a2, iR a1])) _
    refine st1 _ ?_
    show Steps _ _ _ (T1.setTop (mkF m 5 #[vR a1, vR a2, vI 0, vI 7, .unset, .unset] [])) _
    refine XS.aloadN X1.here hx rfl (hb hby d5_5) rfl rfl ?_
    show Steps _ _ _ (T1.setTop (mkF m 6 #[vR a1, vR a2, vI 0, vI 7, .unset, .unset] [iR a1])) _
    refine XS.iconst X1.here hx rfl (hb hby d5_6) ?_
    show Steps _ _ _ (T1.setTop (mkF m 7 #[vR a1, vR a2, vI 0, vI 7, .unset, .unset] [iI 0, iR a1])) _
    refine st4 _ ?_
    show Steps _ _ _ (T4.setTop (mkF m 10 #[vR a1, vR a2, vI 0, vI 7, .unset, .unset] [])) _
    refine XS.iloadN X4.here hx rfl (hb hby d5_10) rfl ?_
    show Steps _ _ _ (T4.setTop (mkF m 11 #[vR a1, vR a2, vI 0, vI 7, .unset, .unset] [iI 0])) _
    refine XS.istore X4.here hx rfl (hb hby d5_11) rfl (l' := #[vR a1, vR a2, vI 0, vI 7, vI 0, .unset]) rfl ?_
    show Steps _ _ _ (T4.setTop (mkF m 13 #[vR a1, vR a2, vI 0, vI 7, vI 0, .unset] [])) _
    refine XS.iload X4.here hx rfl (hb hby d5_13) rfl ?_
    show Steps _ _ _ (T4.setTop (mkF m 15 #[vR a1, vR a2, vI 0, vI 7, vI 0, .unset] [iI 0])) _
    refine XS.iloadN X4.here hx rfl (hb hby d5_15) rfl ?_
    show Steps _ _ _ (T4.setTop (mkF m 16 #[vR a1, vR a2, vI 0, vI 7, vI 0, .unset] [iI 7, iI 0])) _
    refine XS.icmpNo X4.here hx rfl (hb hby d5_16) rfl (tlt (by decide : (0 : Int32) < (7 : Int32))).2.1 ?_
    show Steps _ _ _ (T4.setTop (mkF m 19 #[vR a1, vR a2, vI 0, vI 7, vI 0, .unset] [])) _
    refine XS.iload X4.here hx rfl (hb hby d5_19) rfl ?_
    show Steps _ _ _ (T4.setTop (mkF m 21 #[vR a1, vR a2, vI 0, vI 7, vI 0, .unset] [iI 0])) _
    refine XS.iloadN X4.here hx rfl (hb hby d5_21) rfl ?_
    show Steps _ _ _ (T4.setTop (mkF m 22 #[vR a1, vR a2, vI 0, vI 7, vI 0, .unset] [iI 7, iI 0])) _
    refine XS.icmpNo X4.here hx rfl (hb hby d5_22) rfl (tlt (by decide : (0 : Int32) < (7 : Int32))).2.1 ?_
    show Steps _ _ _ (T4.setTop (mkF m 25 #[vR a1, vR a2, vI 0, vI 7, vI 0, .unset] [])) _
    refine XS.aloadN X4.here hx rfl (hb hby d5_25) rfl rfl ?_
    show Steps _ _ _ (T4.setTop (mkF m 26 #[vR a1, vR a2, vI 0, vI 7, vI 0, .unset] [iR a2])) _
    refine XS.iload X4.here hx rfl (hb hby d5_26) rfl ?_
    show Steps _ _ _ (T4.setTop (mkF m 28 #[vR a1, vR a2, vI 0, vI 7, vI 0, .unset] [iI 0, iR a2])) _
    refine X4.baloadBytes hx (j := (0 : Int32)) (v := (.int x0)) (by rw [e4]; exact Ar6.1) (State.isArrayOf_alike hZ.alike Ar6.2.1) Ar6.2.2 hin7 hat8 (g := (mkF m 28 #[vR a1, vR a2, vI 0, vI 7, vI 0, .unset] [iI 0, iR a2])) rfl rfl (hb hby d5_28) _ ?_
    show Steps _ _ _ (T4.setTop (mkF m 29 #[vR a1, vR a2, vI 0, vI 7, vI 0, .unset] [iI x0])) _
    refine st9.trans ?_
    show Steps _ _ _ (T9.setTop (mkF m 32 #[vR a1, vR a2, vI 0, vI 7, vI 0, .unset] [iI (own_sep x0)])) _
    refine XS.ifYes X9.here hx rfl (pc0 := 32) (pc' := 41) rfl (hb hby d5_32) rfl ((if0 _ _).trans (teq hx0).1) (by decide) (by decide) ?_
    show Steps _ _ _ (T9.setTop (mkF m 41 #[vR a1, vR a2, vI 0, vI 7, vI 0, .unset] [])) _
    refine XS.iload X9.here hx rfl (hb hby d5_41) rfl ?_
    show Steps _ _ _ (T9.setTop (mkF m 43 #[vR a1, vR a2, vI 0, vI 7, vI 0, .unset] [iI 0])) _
    refine XS.istore X9.here hx rfl (hb hby d5_43) rfl (l' := #[vR a1, vR a2, vI 0, vI 7, vI 0, vI 0]) rfl ?_
    show Steps _ _ _ (T9.setTop (mkF m 45 #[vR a1, vR a2, vI 0, vI 7, vI 0, vI 0] [])) _
    refine XS.iload X9.here hx rfl (hb hby d5_45) rfl ?_
    show Steps _ _ _ (T9.setTop (mkF m 47 #[vR a1, vR a2, vI 0, vI 7, vI 0, vI 0] [iI 0])) _
    refine XS.iloadN X9.here hx rfl (hb hby d5_47) rfl ?_
    show Steps _ _ _ (T9.setTop (mkF m 48 #[vR a1, vR a2, vI 0, vI 7, vI 0, vI 0] [iI 7, iI 0])) _
    refine XS.icmpNo X9.here hx rfl (hb hby d5_48) rfl (tlt (by decide : (0 : Int32) < (7 : Int32))).2.1 ?_
    show Steps _ _ _ (T9.setTop (mkF m 51 #[vR a1, vR a2, vI 0, vI 7, vI 0, vI 0] [])) _
    refine XS.aloadN X9.here hx rfl (hb hby d5_51) rfl rfl ?_
    show Steps _ _ _ (T9.setTop (mkF m 52 #[vR a1, vR a2, vI 0, vI 7, vI 0, vI 0] [iR a2])) _
    refine XS.iload X9.here hx rfl (hb hby d5_52) rfl ?_
    show Steps _ _ _ (T9.setTop (mkF m 54 #[vR a1, vR a2, vI 0, vI 7, vI 0, vI 0] [iI 0, iR a2])) _
    refine X9.baloadBytes hx (j := (0 : Int32)) (v := (.int x0)) (by rw [e9]; exact Ar6.1) (State.isArrayOf_alike hZ.alike Ar6.2.1) Ar6.2.2 hin10 hat11 (g := (mkF m 54 #[vR a1, vR a2, vI 0, vI 7, vI 0, vI 0] [iI 0, iR a2])) rfl rfl (hb hby d5_54) _ ?_
    show Steps _ _ _ (T9.setTop (mkF m 55 #[vR a1, vR a2, vI 0, vI 7, vI 0, vI 0] [iI x0])) _
    refine st12.trans ?_
    show Steps _ _ _ (T12.setTop (mkF m 58 #[vR a1, vR a2, vI 0, vI 7, vI 0, vI 0] [iI (own_sep x0)])) _
    refine XS.ifNo X12.here hx rfl (hb hby d5_58) rfl ((if0 _ _).trans (teq hx0).2) ?_
    show Steps _ _ _ (T12.setTop (mkF m 61 #[vR a1, vR a2, vI 0, vI 7, vI 0, vI 0] [])) _
    refine XS.iinc X12.here hx rfl (hb hby d5_61) rfl (l' := #[vR a1, vR a2, vI 0, vI 7, vI ((0 : Int32) + (1 : Int32)), vI 0]) rfl ?_
    rw [(by decide : ((0 : Int32) + (1 : Int32)) = (1 : Int32))]
    show Steps _ _ _ (T12.setTop (mkF m 64 #[vR a1, vR a2, vI 0, vI 7, vI 1, vI 0] [])) _
    refine XS.goto X12.here hx rfl (pc0 := 64) (pc' := 45) rfl (hb hby d5_64) (by decide) (by decide) ?_
    show Steps _ _ _ (T12.setTop (mkF m 45 #[vR a1, vR a2, vI 0, vI 7, vI 1, vI 0] [])) _
    refine XS.iload X12.here hx rfl (hb hby d5_45) rfl ?_
    show Steps _ _ _ (T12.setTop (mkF m 47 #[vR a1, vR a2, vI 0, vI 7, vI 1, vI 0] [iI 1])) _
    refine XS.iloadN X12.here hx rfl (hb hby d5_47) rfl ?_
    show Steps _ _ _ (T12.setTop (mkF m 48 #[vR a1, vR a2, vI 0, vI 7, vI 1, vI 0] [iI 7, iI 1])) _
    refine XS.icmpNo X12.here hx rfl (hb hby d5_48) rfl (tlt (by decide : (1 : Int32) < (7 : Int32))).2.1 ?_
    show Steps _ _ _ (T12.setTop (mkF m 51 #[vR a1, vR a2, vI 0, vI 7, vI 1, vI 0] [])) _
    refine XS.aloadN X12.here hx rfl (hb hby d5_51) rfl rfl ?_
    show Steps _ _ _ (T12.setTop (mkF m 52 #[vR a1, vR a2, vI 0, vI 7, vI 1, vI 0] [iR a2])) _
    refine XS.iload X12.here hx rfl (hb hby d5_52) rfl ?_
    show Steps _ _ _ (T12.setTop (mkF m 54 #[vR a1, vR a2, vI 0, vI 7, vI 1, vI 0] [iI 1, iR a2])) _
    refine X12.baloadBytes hx (j := (1 : Int32)) (v := (.int x1)) (by rw [e12]; exact Ar6.1) (State.isArrayOf_alike hZ.alike Ar6.2.1) Ar6.2.2 hin13 hat14 (g := (mkF m 54 #[vR a1, vR a2, vI 0, vI 7, vI 1, vI 0] [iI 1, iR a2])) rfl rfl (hb hby d5_54) _ ?_
    show Steps _ _ _ (T12.setTop (mkF m 55 #[vR a1, vR a2, vI 0, vI 7, vI 1, vI 0] [iI x1])) _
    refine st15.trans ?_
    show Steps _ _ _ (T15.setTop (mkF m 58 #[vR a1, vR a2, vI 0, vI 7, vI 1, vI 0] [iI (own_sep x1)])) _
    refine XS.ifNo X15.here hx rfl (hb hby d5_58) rfl ((if0 _ _).trans (teq hx1).2) ?_
    show Steps _ _ _ (T15.setTop (mkF m 61 #[vR a1, vR a2, vI 0, vI 7, vI 1, vI 0] [])) _
    refine XS.iinc X15.here hx rfl (hb hby d5_61) rfl (l' := #[vR a1, vR a2, vI 0, vI 7, vI ((1 : Int32) + (1 : Int32)), vI 0]) rfl ?_
    rw [(by decide : ((1 : Int32) + (1 : Int32)) = (2 : Int32))]
    show Steps _ _ _ (T15.setTop (mkF m 64 #[vR a1, vR a2, vI 0, vI 7, vI 2, vI 0] [])) _
    refine XS.goto X15.here hx rfl (pc0 := 64) (pc' := 45) rfl (hb hby d5_64) (by decide) (by decide) ?_
    show Steps _ _ _ (T15.setTop (mkF m 45 #[vR a1, vR a2, vI 0, vI 7, vI 2, vI 0] [])) _
    refine XS.iload X15.here hx rfl (hb hby d5_45) rfl ?_
    show Steps _ _ _ (T15.setTop (mkF m 47 #[vR a1, vR a2, vI 0, vI 7, vI 2, vI 0] [iI 2])) _
    refine XS.iloadN X15.here hx rfl (hb hby d5_47) rfl ?_
    show Steps _ _ _ (T15.setTop (mkF m 48 #[vR a1, vR a2, vI 0, vI 7, vI 2, vI 0] [iI 7, iI 2])) _
    refine XS.icmpNo X15.here hx rfl (hb hby d5_48) rfl (tlt (by decide : (2 : Int32) < (7 : Int32))).2.1 ?_
    show Steps _ _ _ (T15.setTop (mkF m 51 #[vR a1, vR a2, vI 0, vI 7, vI 2, vI 0] [])) _
    refine XS.aloadN X15.here hx rfl (hb hby d5_51) rfl rfl ?_
    show Steps _ _ _ (T15.setTop (mkF m 52 #[vR a1, vR a2, vI 0, vI 7, vI 2, vI 0] [iR a2])) _
    refine XS.iload X15.here hx rfl (hb hby d5_52) rfl ?_
    show Steps _ _ _ (T15.setTop (mkF m 54 #[vR a1, vR a2, vI 0, vI 7, vI 2, vI 0] [iI 2, iR a2])) _
    refine X15.baloadBytes hx (j := (2 : Int32)) (v := (.int x2)) (by rw [e15]; exact Ar6.1) (State.isArrayOf_alike hZ.alike Ar6.2.1) Ar6.2.2 hin16 hat17 (g := (mkF m 54 #[vR a1, vR a2, vI 0, vI 7, vI 2, vI 0] [iI 2, iR a2])) rfl rfl (hb hby d5_54) _ ?_
    show Steps _ _ _ (T15.setTop (mkF m 55 #[vR a1, vR a2, vI 0, vI 7, vI 2, vI 0] [iI x2])) _
    refine st18.trans ?_
    show Steps _ _ _ (T18.setTop (mkF m 58 #[vR a1, vR a2, vI 0, vI 7, vI 2, vI 0] [iI (own_sep x2)])) _
    refine XS.ifNo X18.here hx rfl (hb hby d5_58) rfl ((if0 _ _).trans (teq hx2).2) ?_
    show Steps _ _ _ (T18.setTop (mkF m 61 #[vR a1, vR a2, vI 0, vI 7, vI 2, vI 0] [])) _
    refine XS.iinc X18.here hx rfl (hb hby d5_61) rfl (l' := #[vR a1, vR a2, vI 0, vI 7, vI ((2 : Int32) + (1 : Int32)), vI 0]) rfl ?_
    rw [(by decide : ((2 : Int32) + (1 : Int32)) = (3 : Int32))]
    show Steps _ _ _ (T18.setTop (mkF m 64 #[vR a1, vR a2, vI 0, vI 7, vI 3, vI 0] [])) _
    refine XS.goto X18.here hx rfl (pc0 := 64) (pc' := 45) rfl (hb hby d5_64) (by decide) (by decide) ?_
    show Steps _ _ _ (T18.setTop (mkF m 45 #[vR a1, vR a2, vI 0, vI 7, vI 3, vI 0] [])) _
    refine XS.iload X18.here hx rfl (hb hby d5_45) rfl ?_
    show Steps _ _ _ (T18.setTop (mkF m 47 #[vR a1, vR a2, vI 0, vI 7, vI 3, vI 0] [iI 3])) _
    refine XS.iloadN X18.here hx rfl (hb hby d5_47) rfl ?_
    show Steps _ _ _ (T18.setTop (mkF m 48 #[vR a1, vR a2, vI 0, vI 7, vI 3, vI 0] [iI 7, iI 3])) _
    refine XS.icmpNo X18.here hx rfl (hb hby d5_48) rfl (tlt (by decide : (3 : Int32) < (7 : Int32))).2.1 ?_
    show Steps _ _ _ (T18.setTop (mkF m 51 #[vR a1, vR a2, vI 0, vI 7, vI 3, vI 0] [])) _
    refine XS.aloadN X18.here hx rfl (hb hby d5_51) rfl rfl ?_
    show Steps _ _ _ (T18.setTop (mkF m 52 #[vR a1, vR a2, vI 0, vI 7, vI 3, vI 0] [iR a2])) _
    refine XS.iload X18.here hx rfl (hb hby d5_52) rfl ?_
    show Steps _ _ _ (T18.setTop (mkF m 54 #[vR a1, vR a2, vI 0, vI 7, vI 3, vI 0] [iI 3, iR a2])) _
    refine X18.baloadBytes hx (j := (3 : Int32)) (v := (.int x3)) (by rw [e18]; exact Ar6.1) (State.isArrayOf_alike hZ.alike Ar6.2.1) Ar6.2.2 hin19 hat20 (g := (mkF m 54 #[vR a1, vR a2, vI 0, vI 7, vI 3, vI 0] [iI 3, iR a2])) rfl rfl (hb hby d5_54) _ ?_
    show Steps _ _ _ (T18.setTop (mkF m 55 #[vR a1, vR a2, vI 0, vI 7, vI 3, vI 0] [iI x3])) _
    refine st21.trans ?_
    show Steps _ _ _ (T21.setTop (mkF m 58 #[vR a1, vR a2, vI 0, vI 7, vI 3, vI 0] [iI (own_sep x3)])) _
    refine XS.ifYes X21.here hx rfl (pc0 := 58) (pc' := 67) rfl (hb hby d5_58) rfl ((if0 _ _).trans (feq hx3).2) (by decide) (by decide) ?_
    show Steps _ _ _ (T21.setTop (mkF m 67 #[vR a1, vR a2, vI 0, vI 7, vI 3, vI 0] [])) _
    refine XS.iload X21.here hx rfl (hb hby d5_67) rfl ?_
    show Steps _ _ _ (T21.setTop (mkF m 69 #[vR a1, vR a2, vI 0, vI 7, vI 3, vI 0] [iI 3])) _
    refine XS.iload X21.here hx rfl (hb hby d5_69) rfl ?_
    show Steps _ _ _ (T21.setTop (mkF m 71 #[vR a1, vR a2, vI 0, vI 7, vI 3, vI 0] [iI 0, iI 3])) _
    refine XS.icmpNo X21.here hx rfl (hb hby d5_71) rfl (tlt (by decide : (0 : Int32) < (3 : Int32))).2.2.2 ?_
    show Steps _ _ _ (T21.setTop (mkF m 74 #[vR a1, vR a2, vI 0, vI 7, vI 3, vI 0] [])) _
    refine XS.aloadN X21.here hx rfl (hb hby d5_74) rfl rfl ?_
    show Steps _ _ _ (T21.setTop (mkF m 75 #[vR a1, vR a2, vI 0, vI 7, vI 3, vI 0] [iR a1])) _
    refine st22 _ ?_
    show Steps _ _ _ (T22.setTop (mkF m 78 #[vR a1, vR a2, vI 0, vI 7, vI 3, vI 0] [iI 0])) _
    refine XS.aloadN X22.here hx rfl (hb hby d5_78) rfl rfl ?_
    show Steps _ _ _ (T22.setTop (mkF m 79 #[vR a1, vR a2, vI 0, vI 7, vI 3, vI 0] [iR a1, iI 0])) _
    refine st24 _ ?_
    show Steps _ _ _ (T24.setTop (mkF m 82 #[vR a1, vR a2, vI 0, vI 7, vI 3, vI 0] [iR s1, iI 0])) _
    refine X24.arraylength hx (by rw [e24]; exact Ar26.1) (State.isArrayOf_alike hZ.alike Ar26.2.1) (g := (mkF m 82 #[vR a1, vR a2, vI 0, vI 7, vI 3, vI 0] [iR s1, iI 0])) rfl rfl (hb hby d5_82) _ ?_
    rw [len_of S26 M26]
    show Steps _ _ _ (T24.setTop (mkF m 83 #[vR a1, vR a2, vI 0, vI 7, vI 3, vI 0] [iI 16, iI 0])) _
    refine XS.icmpYes X24.here hx rfl (pc0 := 83) (pc' := 120) rfl (hb hby d5_83) rfl (feq (by decide : ¬ ((0 : Int32) = (16 : Int32)))).2 (by decide) (by decide) ?_
    show Steps _ _ _ (T24.setTop (mkF m 120 #[vR a1, vR a2, vI 0, vI 7, vI 3, vI 0] [])) _
    refine XS.aloadN X24.here hx rfl (hb hby d5_120) rfl rfl ?_
    show Steps _ _ _ (T24.setTop (mkF m 121 #[vR a1, vR a2, vI 0, vI 7, vI 3, vI 0] [iR a1])) _
    refine st27 _ ?_
    show Steps _ _ _ (T27.setTop (mkF m 124 #[vR a1, vR a2, vI 0, vI 7, vI 3, vI 0] [iR s1])) _
    refine XS.aloadN X27.here hx rfl (hb hby d5_124) rfl rfl ?_
    show Steps _ _ _ (T27.setTop (mkF m 125 #[vR a1, vR a2, vI 0, vI 7, vI 3, vI 0] [iR a1, iR s1])) _
    refine st28 _ ?_
    show Steps _ _ _ (T28.setTop (mkF m 128 #[vR a1, vR a2, vI 0, vI 7, vI 3, vI 0] [iI 0, iR s1])) _
    refine XS.iload X28.here hx rfl (hb hby d5_128) rfl ?_
    show Steps _ _ _ (T28.setTop (mkF m 130 #[vR a1, vR a2, vI 0, vI 7, vI 3, vI 0] [iI 0, iI 0, iR s1])) _
    refine st30 _ ?_
    show Steps _ _ _ (T30.setTop (mkF m 131 #[vR a1, vR a2, vI 0, vI 7, vI 3, vI 0] [])) _
    refine XS.aloadN X30.here hx rfl (hb hby d5_131) rfl rfl ?_
    show Steps _ _ _ (T30.setTop (mkF m 132 #[vR a1, vR a2, vI 0, vI 7, vI 3, vI 0] [iR a1])) _
    refine st32 _ ?_
    show Steps _ _ _ (T32.setTop (mkF m 135 #[vR a1, vR a2, vI 0, vI 7, vI 3, vI 0] [iR s2])) _
    refine XS.aloadN X32.here hx rfl (hb hby d5_135) rfl rfl ?_
    show Steps _ _ _ (T32.setTop (mkF m 136 #[vR a1, vR a2, vI 0, vI 7, vI 3, vI 0] [iR a1, iR s2])) _
    refine st34 _ ?_
    show Steps _ _ _ (T34.setTop (mkF m 139 #[vR a1, vR a2, vI 0, vI 7, vI 3, vI 0] [iI 0, iR s2])) _
    refine XS.iload X34.here hx rfl (hb hby d5_139) rfl ?_
    show Steps _ _ _ (T34.setTop (mkF m 141 #[vR a1, vR a2, vI 0, vI 7, vI 3, vI 0] [iI 3, iI 0, iR s2])) _
    refine st38 _ ?_
    show Steps _ _ _ (T38.setTop (mkF m 142 #[vR a1, vR a2, vI 0, vI 7, vI 3, vI 0] [])) _
    refine XS.aloadN X38.here hx rfl (hb hby d5_142) rfl rfl ?_
    show Steps _ _ _ (T38.setTop (mkF m 143 #[vR a1, vR a2, vI 0, vI 7, vI 3, vI 0] [iR a1])) _
    refine XS.dup X38.here hx rfl (hb hby d5_143) rfl rfl ?_
    show Steps _ _ _ (T38.setTop (mkF m 144 #[vR a1, vR a2, vI 0, vI 7, vI 3, vI 0] [iR a1, iR a1])) _
    refine st40 _ ?_
    show Steps _ _ _ (T40.setTop (mkF m 147 #[vR a1, vR a2, vI 0, vI 7, vI 3, vI 0] [iI 0, iR a1])) _
    refine XS.iconst X40.here hx rfl (hb hby d5_147) ?_
    show Steps _ _ _ (T40.setTop (mkF m 148 #[vR a1, vR a2, vI 0, vI 7, vI 3, vI 0] [iI 1, iI 0, iR a1])) _
    refine XS.iadd X40.here hx rfl (hb hby d5_148) rfl ?_
    rw [(by decide : ((0 : Int32) + (1 : Int32)) = (1 : Int32))]
    show Steps _ _ _ (T40.setTop (mkF m 149 #[vR a1, vR a2, vI 0, vI 7, vI 3, vI 0] [iI 1, iR a1])) _
    refine st42 _ ?_
    show Steps _ _ _ (T42.setTop (mkF m 152 #[vR a1, vR a2, vI 0, vI 7, vI 3, vI 0] [])) _
    refine XS.goto X42.here hx rfl (pc0 := 152) (pc' := 13) rfl (hb hby d5_152) (by decide) (by decide) ?_
    show Steps _ _ _ (T42.setTop (mkF m 13 #[vR a1, vR a2, vI 0, vI 7, vI 3, vI 0] [])) _
    refine XS.iload X42.here hx rfl (hb hby d5_13) rfl ?_
    show Steps _ _ _ (T42.setTop (mkF m 15 #[vR a1, vR a2, vI 0, vI 7, vI 3, vI 0] [iI 3])) _
    refine XS.iloadN X42.here hx rfl (hb hby d5_15) rfl ?_
    show Steps _ _ _ (T42.setTop (mkF m 16 #[vR a1, vR a2, vI 0, vI 7, vI 3, vI 0] [iI 7, iI 3])) _
    refine XS.icmpNo X42.here hx rfl (hb hby d5_16) rfl (tlt (by decide : (3 : Int32) < (7 : Int32))).2.1 ?_
    show Steps _ _ _ (T42.setTop (mkF m 19 #[vR a1, vR a2, vI 0, vI 7, vI 3, vI 0] [])) _
    refine XS.iload X42.here hx rfl (hb hby d5_19) rfl ?_
    show Steps _ _ _ (T42.setTop (mkF m 21 #[vR a1, vR a2, vI 0, vI 7, vI 3, vI 0] [iI 3])) _
    refine XS.iloadN X42.here hx rfl (hb hby d5_21) rfl ?_
    show Steps _ _ _ (T42.setTop (mkF m 22 #[vR a1, vR a2, vI 0, vI 7, vI 3, vI 0] [iI 7, iI 3])) _
    refine XS.icmpNo X42.here hx rfl (hb hby d5_22) rfl (tlt (by decide : (3 : Int32) < (7 : Int32))).2.1 ?_
    show Steps _ _ _ (T42.setTop (mkF m 25 #[vR a1, vR a2, vI 0, vI 7, vI 3, vI 0] [])) _
    refine XS.aloadN X42.here hx rfl (hb hby d5_25) rfl rfl ?_
    show Steps _ _ _ (T42.setTop (mkF m 26 #[vR a1, vR a2, vI 0, vI 7, vI 3, vI 0] [iR a2])) _
    refine XS.iload X42.here hx rfl (hb hby d5_26) rfl ?_
    show Steps _ _ _ (T42.setTop (mkF m 28 #[vR a1, vR a2, vI 0, vI 7, vI 3, vI 0] [iI 3, iR a2])) _
    refine X42.baloadBytes hx (j := (3 : Int32)) (v := (.int x3)) (by rw [e42]; exact Ar44.1) (State.isArrayOf_alike hZ.alike Ar44.2.1) Ar44.2.2 hin45 hat46 (g := (mkF m 28 #[vR a1, vR a2, vI 0, vI 7, vI 3, vI 0] [iI 3, iR a2])) rfl rfl (hb hby d5_28) _ ?_
    show Steps _ _ _ (T42.setTop (mkF m 29 #[vR a1, vR a2, vI 0, vI 7, vI 3, vI 0] [iI x3])) _
    refine st47.trans ?_
    show Steps _ _ _ (T47.setTop (mkF m 32 #[vR a1, vR a2, vI 0, vI 7, vI 3, vI 0] [iI (own_sep x3)])) _
    refine XS.ifNo X47.here hx rfl (hb hby d5_32) rfl ((if0 _ _).trans (feq hx3).1) ?_
    show Steps _ _ _ (T47.setTop (mkF m 35 #[vR a1, vR a2, vI 0, vI 7, vI 3, vI 0] [])) _
    refine XS.iinc X47.here hx rfl (hb hby d5_35) rfl (l' := #[vR a1, vR a2, vI 0, vI 7, vI ((3 : Int32) + (1 : Int32)), vI 0]) rfl ?_
    rw [(by decide : ((3 : Int32) + (1 : Int32)) = (4 : Int32))]
    show Steps _ _ _ (T47.setTop (mkF m 38 #[vR a1, vR a2, vI 0, vI 7, vI 4, vI 0] [])) _
    refine XS.goto X47.here hx rfl (pc0 := 38) (pc' := 19) rfl (hb hby d5_38) (by decide) (by decide) ?_
    show Steps _ _ _ (T47.setTop (mkF m 19 #[vR a1, vR a2, vI 0, vI 7, vI 4, vI 0] [])) _
    refine XS.iload X47.here hx rfl (hb hby d5_19) rfl ?_
    show Steps _ _ _ (T47.setTop (mkF m 21 #[vR a1, vR a2, vI 0, vI 7, vI 4, vI 0] [iI 4])) _
    refine XS.iloadN X47.here hx rfl (hb hby d5_21) rfl ?_
    show Steps _ _ _ (T47.setTop (mkF m 22 #[vR a1, vR a2, vI 0, vI 7, vI 4, vI 0] [iI 7, iI 4])) _
    refine XS.icmpNo X47.here hx rfl (hb hby d5_22) rfl (tlt (by decide : (4 : Int32) < (7 : Int32))).2.1 ?_
    show Steps _ _ _ (T47.setTop (mkF m 25 #[vR a1, vR a2, vI 0, vI 7, vI 4, vI 0] [])) _
    refine XS.aloadN X47.here hx rfl (hb hby d5_25) rfl rfl ?_
    show Steps _ _ _ (T47.setTop (mkF m 26 #[vR a1, vR a2, vI 0, vI 7, vI 4, vI 0] [iR a2])) _
    refine XS.iload X47.here hx rfl (hb hby d5_26) rfl ?_
    show Steps _ _ _ (T47.setTop (mkF m 28 #[vR a1, vR a2, vI 0, vI 7, vI 4, vI 0] [iI 4, iR a2])) _
    refine X47.baloadBytes hx (j := (4 : Int32)) (v := (.int x4)) (by rw [e47]; exact Ar44.1) (State.isArrayOf_alike hZ.alike Ar44.2.1) Ar44.2.2 hin48 hat49 (g := (mkF m 28 #[vR a1, vR a2, vI 0, vI 7, vI 4, vI 0] [iI 4, iR a2])) rfl rfl (hb hby d5_28) _ ?_
    show Steps _ _ _ (T47.setTop (mkF m 29 #[vR a1, vR a2, vI 0, vI 7, vI 4, vI 0] [iI x4])) _
    refine st50.trans ?_
    show Steps _ _ _ (T50.setTop (mkF m 32 #[vR a1, vR a2, vI 0, vI 7, vI 4, vI 0] [iI (own_sep x4)])) _
    refine XS.ifYes X50.here hx rfl (pc0 := 32) (pc' := 41) rfl (hb hby d5_32) rfl ((if0 _ _).trans (teq hx4).1) (by decide) (by decide) ?_
    show Steps _ _ _ (T50.setTop (mkF m 41 #[vR a1, vR a2, vI 0, vI 7, vI 4, vI 0] [])) _
    refine XS.iload X50.here hx rfl (hb hby d5_41) rfl ?_
    show Steps _ _ _ (T50.setTop (mkF m 43 #[vR a1, vR a2, vI 0, vI 7, vI 4, vI 0] [iI 4])) _
    refine XS.istore X50.here hx rfl (hb hby d5_43) rfl (l' := #[vR a1, vR a2, vI 0, vI 7, vI 4, vI 4]) rfl ?_
    show Steps _ _ _ (T50.setTop (mkF m 45 #[vR a1, vR a2, vI 0, vI 7, vI 4, vI 4] [])) _
    refine XS.iload X50.here hx rfl (hb hby d5_45) rfl ?_
    show Steps _ _ _ (T50.setTop (mkF m 47 #[vR a1, vR a2, vI 0, vI 7, vI 4, vI 4] [iI 4])) _
    refine XS.iloadN X50.here hx rfl (hb hby d5_47) rfl ?_
    show Steps _ _ _ (T50.setTop (mkF m 48 #[vR a1, vR a2, vI 0, vI 7, vI 4, vI 4] [iI 7, iI 4])) _
    refine XS.icmpNo X50.here hx rfl (hb hby d5_48) rfl (tlt (by decide : (4 : Int32) < (7 : Int32))).2.1 ?_
    show Steps _ _ _ (T50.setTop (mkF m 51 #[vR a1, vR a2, vI 0, vI 7, vI 4, vI 4] [])) _
    refine XS.aloadN X50.here hx rfl (hb hby d5_51) rfl rfl ?_
    show Steps _ _ _ (T50.setTop (mkF m 52 #[vR a1, vR a2, vI 0, vI 7, vI 4, vI 4] [iR a2])) _
    refine XS.iload X50.here hx rfl (hb hby d5_52) rfl ?_
    show Steps _ _ _ (T50.setTop (mkF m 54 #[vR a1, vR a2, vI 0, vI 7, vI 4, vI 4] [iI 4, iR a2])) _
    refine X50.baloadBytes hx (j := (4 : Int32)) (v := (.int x4)) (by rw [e50]; exact Ar44.1) (State.isArrayOf_alike hZ.alike Ar44.2.1) Ar44.2.2 hin51 hat52 (g := (mkF m 54 #[vR a1, vR a2, vI 0, vI 7, vI 4, vI 4] [iI 4, iR a2])) rfl rfl (hb hby d5_54) _ ?_
    show Steps _ _ _ (T50.setTop (mkF m 55 #[vR a1, vR a2, vI 0, vI 7, vI 4, vI 4] [iI x4])) _
    refine st53.trans ?_
    show Steps _ _ _ (T53.setTop (mkF m 58 #[vR a1, vR a2, vI 0, vI 7, vI 4, vI 4] [iI (own_sep x4)])) _
    refine XS.ifNo X53.here hx rfl (hb hby d5_58) rfl ((if0 _ _).trans (teq hx4).2) ?_
    show Steps _ _ _ (T53.setTop (mkF m 61 #[vR a1, vR a2, vI 0, vI 7, vI 4, vI 4] [])) _
    refine XS.iinc X53.here hx rfl (hb hby d5_61) rfl (l' := #[vR a1, vR a2, vI 0, vI 7, vI ((4 : Int32) + (1 : Int32)), vI 4]) rfl ?_
    rw [(by decide : ((4 : Int32) + (1 : Int32)) = (5 : Int32))]
    show Steps _ _ _ (T53.setTop (mkF m 64 #[vR a1, vR a2, vI 0, vI 7, vI 5, vI 4] [])) _
    refine XS.goto X53.here hx rfl (pc0 := 64) (pc' := 45) rfl (hb hby d5_64) (by decide) (by decide) ?_
    show Steps _ _ _ (T53.setTop (mkF m 45 #[vR a1, vR a2, vI 0, vI 7, vI 5, vI 4] [])) _
    refine XS.iload X53.here hx rfl (hb hby d5_45) rfl ?_
    show Steps _ _ _ (T53.setTop (mkF m 47 #[vR a1, vR a2, vI 0, vI 7, vI 5, vI 4] [iI 5])) _
    refine XS.iloadN X53.here hx rfl (hb hby d5_47) rfl ?_
    show Steps _ _ _ (T53.setTop (mkF m 48 #[vR a1, vR a2, vI 0, vI 7, vI 5, vI 4] [iI 7, iI 5])) _
    refine XS.icmpNo X53.here hx rfl (hb hby d5_48) rfl (tlt (by decide : (5 : Int32) < (7 : Int32))).2.1 ?_
    show Steps _ _ _ (T53.setTop (mkF m 51 #[vR a1, vR a2, vI 0, vI 7, vI 5, vI 4] [])) _
    refine XS.aloadN X53.here hx rfl (hb hby d5_51) rfl rfl ?_
    show Steps _ _ _ (T53.setTop (mkF m 52 #[vR a1, vR a2, vI 0, vI 7, vI 5, vI 4] [iR a2])) _
    refine XS.iload X53.here hx rfl (hb hby d5_52) rfl ?_
    show Steps _ _ _ (T53.setTop (mkF m 54 #[vR a1, vR a2, vI 0, vI 7, vI 5, vI 4] [iI 5, iR a2])) _
    refine X53.baloadBytes hx (j := (5 : Int32)) (v := (.int x5)) (by rw [e53]; exact Ar44.1) (State.isArrayOf_alike hZ.alike Ar44.2.1) Ar44.2.2 hin54 hat55 (g := (mkF m 54 #[vR a1, vR a2, vI 0, vI 7, vI 5, vI 4] [iI 5, iR a2])) rfl rfl (hb hby d5_54) _ ?_
    show Steps _ _ _ (T53.setTop (mkF m 55 #[vR a1, vR a2, vI 0, vI 7, vI 5, vI 4] [iI x5])) _
    refine st56.trans ?_
    show Steps _ _ _ (T56.setTop (mkF m 58 #[vR a1, vR a2, vI 0, vI 7, vI 5, vI 4] [iI (own_sep x5)])) _
    refine XS.ifNo X56.here hx rfl (hb hby d5_58) rfl ((if0 _ _).trans (teq hx5).2) ?_
    show Steps _ _ _ (T56.setTop (mkF m 61 #[vR a1, vR a2, vI 0, vI 7, vI 5, vI 4] [])) _
    refine XS.iinc X56.here hx rfl (hb hby d5_61) rfl (l' := #[vR a1, vR a2, vI 0, vI 7, vI ((5 : Int32) + (1 : Int32)), vI 4]) rfl ?_
    rw [(by decide : ((5 : Int32) + (1 : Int32)) = (6 : Int32))]
    show Steps _ _ _ (T56.setTop (mkF m 64 #[vR a1, vR a2, vI 0, vI 7, vI 6, vI 4] [])) _
    refine XS.goto X56.here hx rfl (pc0 := 64) (pc' := 45) rfl (hb hby d5_64) (by decide) (by decide) ?_
    show Steps _ _ _ (T56.setTop (mkF m 45 #[vR a1, vR a2, vI 0, vI 7, vI 6, vI 4] [])) _
    refine XS.iload X56.here hx rfl (hb hby d5_45) rfl ?_
    show Steps _ _ _ (T56.setTop (mkF m 47 #[vR a1, vR a2, vI 0, vI 7, vI 6, vI 4] [iI 6])) _
    refine XS.iloadN X56.here hx rfl (hb hby d5_47) rfl ?_
    show Steps _ _ _ (T56.setTop (mkF m 48 #[vR a1, vR a2, vI 0, vI 7, vI 6, vI 4] [iI 7, iI 6])) _
    refine XS.icmpNo X56.here hx rfl (hb hby d5_48) rfl (tlt (by decide : (6 : Int32) < (7 : Int32))).2.1 ?_
    show Steps _ _ _ (T56.setTop (mkF m 51 #[vR a1, vR a2, vI 0, vI 7, vI 6, vI 4] [])) _
    refine XS.aloadN X56.here hx rfl (hb hby d5_51) rfl rfl ?_
    show Steps _ _ _ (T56.setTop (mkF m 52 #[vR a1, vR a2, vI 0, vI 7, vI 6, vI 4] [iR a2])) _
    refine XS.iload X56.here hx rfl (hb hby d5_52) rfl ?_
    show Steps _ _ _ (T56.setTop (mkF m 54 #[vR a1, vR a2, vI 0, vI 7, vI 6, vI 4] [iI 6, iR a2])) _
    refine X56.baloadBytes hx (j := (6 : Int32)) (v := (.int x6)) (by rw [e56]; exact Ar44.1) (State.isArrayOf_alike hZ.alike Ar44.2.1) Ar44.2.2 hin57 hat58 (g := (mkF m 54 #[vR a1, vR a2, vI 0, vI 7, vI 6, vI 4] [iI 6, iR a2])) rfl rfl (hb hby d5_54) _ ?_
    show Steps _ _ _ (T56.setTop (mkF m 55 #[vR a1, vR a2, vI 0, vI 7, vI 6, vI 4] [iI x6])) _
    refine st59.trans ?_
    show Steps _ _ _ (T59.setTop (mkF m 58 #[vR a1, vR a2, vI 0, vI 7, vI 6, vI 4] [iI (own_sep x6)])) _
    refine XS.ifNo X59.here hx rfl (hb hby d5_58) rfl ((if0 _ _).trans (teq hx6).2) ?_
    show Steps _ _ _ (T59.setTop (mkF m 61 #[vR a1, vR a2, vI 0, vI 7, vI 6, vI 4] [])) _
    refine XS.iinc X59.here hx rfl (hb hby d5_61) rfl (l' := #[vR a1, vR a2, vI 0, vI 7, vI ((6 : Int32) + (1 : Int32)), vI 4]) rfl ?_
    rw [(by decide : ((6 : Int32) + (1 : Int32)) = (7 : Int32))]
    show Steps _ _ _ (T59.setTop (mkF m 64 #[vR a1, vR a2, vI 0, vI 7, vI 7, vI 4] [])) _
    refine XS.goto X59.here hx rfl (pc0 := 64) (pc' := 45) rfl (hb hby d5_64) (by decide) (by decide) ?_
    show Steps _ _ _ (T59.setTop (mkF m 45 #[vR a1, vR a2, vI 0, vI 7, vI 7, vI 4] [])) _
    refine XS.iload X59.here hx rfl (hb hby d5_45) rfl ?_
    show Steps _ _ _ (T59.setTop (mkF m 47 #[vR a1, vR a2, vI 0, vI 7, vI 7, vI 4] [iI 7])) _
    refine XS.iloadN X59.here hx rfl (hb hby d5_47) rfl ?_
    show Steps _ _ _ (T59.setTop (mkF m 48 #[vR a1, vR a2, vI 0, vI 7, vI 7, vI 4] [iI 7, iI 7])) _
    refine XS.icmpYes X59.here hx rfl (pc0 := 48) (pc' := 67) rfl (hb hby d5_48) rfl (flt (by decide : ¬ ((7 : Int32) < (7 : Int32)))).2.1 (by decide) (by decide) ?_
    show Steps _ _ _ (T59.setTop (mkF m 67 #[vR a1, vR a2, vI 0, vI 7, vI 7, vI 4] [])) _
    refine XS.iload X59.here hx rfl (hb hby d5_67) rfl ?_
    show Steps _ _ _ (T59.setTop (mkF m 69 #[vR a1, vR a2, vI 0, vI 7, vI 7, vI 4] [iI 7])) _
    refine XS.iload X59.here hx rfl (hb hby d5_69) rfl ?_
    show Steps _ _ _ (T59.setTop (mkF m 71 #[vR a1, vR a2, vI 0, vI 7, vI 7, vI 4] [iI 4, iI 7])) _
    refine XS.icmpNo X59.here hx rfl (hb hby d5_71) rfl (tlt (by decide : (4 : Int32) < (7 : Int32))).2.2.2 ?_
    show Steps _ _ _ (T59.setTop (mkF m 74 #[vR a1, vR a2, vI 0, vI 7, vI 7, vI 4] [])) _
    refine XS.aloadN X59.here hx rfl (hb hby d5_74) rfl rfl ?_
    show Steps _ _ _ (T59.setTop (mkF m 75 #[vR a1, vR a2, vI 0, vI 7, vI 7, vI 4] [iR a1])) _
    refine st60 _ ?_
    show Steps _ _ _ (T60.setTop (mkF m 78 #[vR a1, vR a2, vI 0, vI 7, vI 7, vI 4] [iI 1])) _
    refine XS.aloadN X60.here hx rfl (hb hby d5_78) rfl rfl ?_
    show Steps _ _ _ (T60.setTop (mkF m 79 #[vR a1, vR a2, vI 0, vI 7, vI 7, vI 4] [iR a1, iI 1])) _
    refine st62 _ ?_
    show Steps _ _ _ (T62.setTop (mkF m 82 #[vR a1, vR a2, vI 0, vI 7, vI 7, vI 4] [iR s1, iI 1])) _
    refine X62.arraylength hx (by rw [e62]; exact Ar64.1) (State.isArrayOf_alike hZ.alike Ar64.2.1) (g := (mkF m 82 #[vR a1, vR a2, vI 0, vI 7, vI 7, vI 4] [iR s1, iI 1])) rfl rfl (hb hby d5_82) _ ?_
    rw [len_of S64 M64]
    show Steps _ _ _ (T62.setTop (mkF m 83 #[vR a1, vR a2, vI 0, vI 7, vI 7, vI 4] [iI 16, iI 1])) _
    refine XS.icmpYes X62.here hx rfl (pc0 := 83) (pc' := 120) rfl (hb hby d5_83) rfl (feq (by decide : ¬ ((1 : Int32) = (16 : Int32)))).2 (by decide) (by decide) ?_
    show Steps _ _ _ (T62.setTop (mkF m 120 #[vR a1, vR a2, vI 0, vI 7, vI 7, vI 4] [])) _
    refine XS.aloadN X62.here hx rfl (hb hby d5_120) rfl rfl ?_
    show Steps _ _ _ (T62.setTop (mkF m 121 #[vR a1, vR a2, vI 0, vI 7, vI 7, vI 4] [iR a1])) _
    refine st65 _ ?_
    show Steps _ _ _ (T65.setTop (mkF m 124 #[vR a1, vR a2, vI 0, vI 7, vI 7, vI 4] [iR s1])) _
    refine XS.aloadN X65.here hx rfl (hb hby d5_124) rfl rfl ?_
    show Steps _ _ _ (T65.setTop (mkF m 125 #[vR a1, vR a2, vI 0, vI 7, vI 7, vI 4] [iR a1, iR s1])) _
    refine st66 _ ?_
    show Steps _ _ _ (T66.setTop (mkF m 128 #[vR a1, vR a2, vI 0, vI 7, vI 7, vI 4] [iI 1, iR s1])) _
    refine XS.iload X66.here hx rfl (hb hby d5_128) rfl ?_
    show Steps _ _ _ (T66.setTop (mkF m 130 #[vR a1, vR a2, vI 0, vI 7, vI 7, vI 4] [iI 4, iI 1, iR s1])) _
    refine st68 _ ?_
    show Steps _ _ _ (T68.setTop (mkF m 131 #[vR a1, vR a2, vI 0, vI 7, vI 7, vI 4] [])) _
    refine XS.aloadN X68.here hx rfl (hb hby d5_131) rfl rfl ?_
    show Steps _ _ _ (T68.setTop (mkF m 132 #[vR a1, vR a2, vI 0, vI 7, vI 7, vI 4] [iR a1])) _
    refine st70 _ ?_
    show Steps _ _ _ (T70.setTop (mkF m 135 #[vR a1, vR a2, vI 0, vI 7, vI 7, vI 4] [iR s2])) _
    refine XS.aloadN X70.here hx rfl (hb hby d5_135) rfl rfl ?_
    show Steps _ _ _ (T70.setTop (mkF m 136 #[vR a1, vR a2, vI 0, vI 7, vI 7, vI 4] [iR a1, iR s2])) _
    refine st72 _ ?_
    show Steps _ _ _ (T72.setTop (mkF m 139 #[vR a1, vR a2, vI 0, vI 7, vI 7, vI 4] [iI 1, iR s2])) _
    refine XS.iload X72.here hx rfl (hb hby d5_139) rfl ?_
    show Steps _ _ _ (T72.setTop (mkF m 141 #[vR a1, vR a2, vI 0, vI 7, vI 7, vI 4] [iI 7, iI 1, iR s2])) _
    refine st76 _ ?_
    show Steps _ _ _ (T76.setTop (mkF m 142 #[vR a1, vR a2, vI 0, vI 7, vI 7, vI 4] [])) _
    refine XS.aloadN X76.here hx rfl (hb hby d5_142) rfl rfl ?_
    show Steps _ _ _ (T76.setTop (mkF m 143 #[vR a1, vR a2, vI 0, vI 7, vI 7, vI 4] [iR a1])) _
    refine XS.dup X76.here hx rfl (hb hby d5_143) rfl rfl ?_
    show Steps _ _ _ (T76.setTop (mkF m 144 #[vR a1, vR a2, vI 0, vI 7, vI 7, vI 4] [iR a1, iR a1])) _
    refine st78 _ ?_
    show Steps _ _ _ (T78.setTop (mkF m 147 #[vR a1, vR a2, vI 0, vI 7, vI 7, vI 4] [iI 1, iR a1])) _
    refine XS.iconst X78.here hx rfl (hb hby d5_147) ?_
    show Steps _ _ _ (T78.setTop (mkF m 148 #[vR a1, vR a2, vI 0, vI 7, vI 7, vI 4] [iI 1, iI 1, iR a1])) _
    refine XS.iadd X78.here hx rfl (hb hby d5_148) rfl ?_
    rw [(by decide : ((1 : Int32) + (1 : Int32)) = (2 : Int32))]
    show Steps _ _ _ (T78.setTop (mkF m 149 #[vR a1, vR a2, vI 0, vI 7, vI 7, vI 4] [iI 2, iR a1])) _
    refine st80 _ ?_
    show Steps _ _ _ (T80.setTop (mkF m 152 #[vR a1, vR a2, vI 0, vI 7, vI 7, vI 4] [])) _
    refine XS.goto X80.here hx rfl (pc0 := 152) (pc' := 13) rfl (hb hby d5_152) (by decide) (by decide) ?_
    show Steps _ _ _ (T80.setTop (mkF m 13 #[vR a1, vR a2, vI 0, vI 7, vI 7, vI 4] [])) _
    refine XS.iload X80.here hx rfl (hb hby d5_13) rfl ?_
    show Steps _ _ _ (T80.setTop (mkF m 15 #[vR a1, vR a2, vI 0, vI 7, vI 7, vI 4] [iI 7])) _
    refine XS.iloadN X80.here hx rfl (hb hby d5_15) rfl ?_
    show Steps _ _ _ (T80.setTop (mkF m 16 #[vR a1, vR a2, vI 0, vI 7, vI 7, vI 4] [iI 7, iI 7])) _
    refine XS.icmpYes X80.here hx rfl (pc0 := 16) (pc' := 155) rfl (hb hby d5_16) rfl (flt (by decide : ¬ ((7 : Int32) < (7 : Int32)))).2.1 (by decide) (by decide) ?_
    show Steps _ _ _ (T80.setTop (mkF m 155 #[vR a1, vR a2, vI 0, vI 7, vI 7, vI 4] [])) _
    exact X80.returnOut hx Bd.returns (hb hby d5_155) hr
  · show Q5_0_7 Z a1 a2 s1 s2 k1 k2 kl x0 x1 x2 x3 x4 x5 x6 h0 n0 _ T80.heap _
    rw [e80]
    exact ⟨rfl, N80, K80, fk81, fk82, fk83, fk84, fk85, fk86⟩
theorem ef_5_1_5 (m : MethodId) (x0 : Addr) (x1 : Addr) : entryFrame m #[(.ref x0), (.ref x1), (.int (1 : Int32)), (.int (5 : Int32))] 6 = mkF m 0 #[.val (.ref x0), .val (.ref x1), .val (.int (1 : Int32)), .val (.int (5 : Int32)), .unset, .unset] [] := by first | (simp [entryFrame, mkF, argsToLocals, Value.category]; done) | rfl
def Q5_1_5 (Z : State) (a1 : Addr) (a2 : Addr) (s1 s2 : Addr) (k1 k2 kl : ClassId) (x0 : Int32) (x1 : Int32) (x2 : Int32) (x3 : Int32) (x4 : Int32) (x5 : Int32) (x6 : Int32) (h0 : Heap) (n0 : Nat) (v : Option Value) (h : Heap) (L : List Loc) : Prop := v = none ∧ Fr n0 L ∧ Keep h0 h [a1, s1, s2] ∧ Exa Z h a1 "com/example/tidemine/tidemine/TextFormat$Tokens" ∧ Fld Z h a1 "com/example/tidemine/tidemine/TextFormat$Tokens" "line" "[B" (.ref a2) ∧ Fld Z h a1 "com/example/tidemine/tidemine/TextFormat$Tokens" "starts" "[I" (.ref s1) ∧ Fld Z h a1 "com/example/tidemine/tidemine/TextFormat$Tokens" "ends" "[I" (.ref s2) ∧ Arv Z h s1 k1 .int (16 : Int32) [(.int (1 : Int32)), (.int (4 : Int32)), (.int (0 : Int32)), (.int (0 : Int32)), (.int (0 : Int32)), (.int (0 : Int32)), (.int (0 : Int32)), (.int (0 : Int32)), (.int (0 : Int32)), (.int (0 : Int32)), (.int (0 : Int32)), (.int (0 : Int32)), (.int (0 : Int32)), (.int (0 : Int32)), (.int (0 : Int32)), (.int (0 : Int32))] (.int (0 : Int32)) ∧ Arv Z h s2 k2 .int (16 : Int32) [(.int (3 : Int32)), (.int (5 : Int32)), (.int (0 : Int32)), (.int (0 : Int32)), (.int (0 : Int32)), (.int (0 : Int32)), (.int (0 : Int32)), (.int (0 : Int32)), (.int (0 : Int32)), (.int (0 : Int32)), (.int (0 : Int32)), (.int (0 : Int32)), (.int (0 : Int32)), (.int (0 : Int32)), (.int (0 : Int32)), (.int (0 : Int32))] (.int (0 : Int32))
set_option maxRecDepth 65536 in
set_option maxHeartbeats 40000000 in
theorem rm5_1_5 (l : Launch) (Z : State) (a0 : Array Value) (hw : ∀ d ∈ tables_1, d.before a0 Z = true) (ws : List Jvm.Cond) (a1 : Addr) (a2 : Addr) (s1 s2 : Addr) (k1 k2 kl : ClassId) (x0 : Int32) (x1 : Int32) (x2 : Int32) (x3 : Int32) (x4 : Int32) (x5 : Int32) (x6 : Int32) (h0 : Heap) (n0 : Nat) (Z0 : n0 ≤ h0.size) (E_a1 : Exa Z h0 a1 "com/example/tidemine/tidemine/TextFormat$Tokens") (g_a1 : n0 ≤ a1) (g_s1 : n0 ≤ s1) (g_s2 : n0 ≤ s2) (F_line : Fld Z h0 a1 "com/example/tidemine/tidemine/TextFormat$Tokens" "line" "[B" .null) (F_starts : Fld Z h0 a1 "com/example/tidemine/tidemine/TextFormat$Tokens" "starts" "[I" (.ref s1)) (F_ends : Fld Z h0 a1 "com/example/tidemine/tidemine/TextFormat$Tokens" "ends" "[I" (.ref s2)) (F_count : Fld Z h0 a1 "com/example/tidemine/tidemine/TextFormat$Tokens" "count" "I" (.int (0 : Int32))) (V_1 : Arv Z h0 s1 k1 .int (16 : Int32) [(.int (0 : Int32)), (.int (0 : Int32)), (.int (0 : Int32)), (.int (0 : Int32)), (.int (0 : Int32)), (.int (0 : Int32)), (.int (0 : Int32)), (.int (0 : Int32)), (.int (0 : Int32)), (.int (0 : Int32)), (.int (0 : Int32)), (.int (0 : Int32)), (.int (0 : Int32)), (.int (0 : Int32)), (.int (0 : Int32)), (.int (0 : Int32))] (.int (0 : Int32))) (V_2 : Arv Z h0 s2 k2 .int (16 : Int32) [(.int (0 : Int32)), (.int (0 : Int32)), (.int (0 : Int32)), (.int (0 : Int32)), (.int (0 : Int32)), (.int (0 : Int32)), (.int (0 : Int32)), (.int (0 : Int32)), (.int (0 : Int32)), (.int (0 : Int32)), (.int (0 : Int32)), (.int (0 : Int32)), (.int (0 : Int32)), (.int (0 : Int32)), (.int (0 : Int32)), (.int (0 : Int32))] (.int (0 : Int32))) (V_l : Arv Z h0 a2 kl .byte (7 : Int32) [(.int x0), (.int x1), (.int x2), (.int x3), (.int x4), (.int x5), (.int x6)] (.int (0 : Int32))) (ne_a1_a2 : a1 ≠ a2) (ne_a1_s1 : a1 ≠ s1) (ne_a1_s2 : a1 ≠ s2) (ne_a2_s1 : a2 ≠ s1) (ne_a2_s2 : a2 ≠ s2) (ne_s1_s2 : s1 ≠ s2) (hx0 : (own_sep x0) = (0 : Int32)) (hx1 : (own_sep x1) = (0 : Int32)) (hx2 : (own_sep x2) = (0 : Int32)) (hx3 : ¬ (own_sep x3) = (0 : Int32)) (hx4 : (own_sep x4) = (0 : Int32)) (hx5 : (own_sep x5) = (0 : Int32)) (hx6 : (own_sep x6) = (0 : Int32)) :
    MetFree l (⟨"com/example/tidemine/tidemine/TextFormat$Tokens", "split", "([BII)V"⟩ : MethodName) (head1 (Jvm.Cond.code (⟨"com/example/tidemine/tidemine/TextFormat$Tokens", "split", "([BII)V"⟩ : MethodName) prog_41_method_2_code 6 none :: ws) ({ frames := 1, cells := 0, slots := 0, locals := 12 } : Room)) (fun a U => a = #[(.ref a1), (.ref a2), (.int (1 : Int32)), (.int (5 : Int32))] ∧ Z.Warmed39 U.vm ∧ U.heap = h0) (fun _ _ _ _ _ => True) (fun _ U o U' => ∃ v L, o = .returned v ∧ Q5_1_5 Z a1 a2 s1 s2 k1 k2 kl x0 x1 x2 x3 x4 x5 x6 h0 n0 v U'.heap L ∧ FrameEnd U o U' L ({ frames := 1, cells := 0, slots := 0, locals := 12 } : Room).cells ({ frames := 1, cells := 0, slots := 0, locals := 12 } : Room).slots) := by
  refine MetFree.of_bodySF (plainFor_of_name pn_2) hisR ?_
  intro p e s m args below meth c s₁ Bd hml0 hP hK
  obtain ⟨rfl, hZ, hh⟩ := hP
  have hx := Bd.exec
  have hby := Bd.bytes
  have hml : c.maxLocals = 6 := hml0
  have hown : s.vm.findClass "com/example/tidemine/tidemine/TextFormat$Tokens" = some m.cls := findClass_of_methodNamed Bd.named
  have hnm := (name_of_methodNamed Bd.named Bd.method).1
  have X0 : Stand p l e ({ frames := 1, cells := 0, slots := 0, locals := 12 } : Room) s m #[(.ref a1), (.ref a2), (.int (1 : Int32)), (.int (5 : Int32))] below meth c s₁ [] 0 0 := Stand.of_body Bd
  have e0 : s₁.heap = h0 := by rw [← hh, Bd.state]; rfl
  have N0 := Fr.nil n0
  have K0 := Keep.refl h0 [a1, s1, s2]
  have pre0 : ∀ t, Steps p.tables e below (s₁.setTop (mkF m 0 #[.val (.ref a1), .val (.ref a2), .val (.int (1 : Int32)), .val (.int (5 : Int32)), .unset, .unset] [])) t → Steps p.tables e below (s₁.setTop (entryFrame m #[(.ref a1), (.ref a2), (.int (1 : Int32)), (.int (5 : Int32))] 6)) t := fun t k => castTop (ef_5_1_5 m a1 a2) k
  obtain ⟨T1, h1, X1, e1, W1, st1⟩ := putF X0 hx hZ hown (host := "") (Or.inl (hw _ (List.mem_of_getElem? (i := 28) rfl))) Via.refl e0 F_line E_a1 (Or.inl (hw _ (List.mem_of_getElem? (i := 29) rfl))) (hw _ (List.mem_of_getElem? (i := 10) rfl)) (ty := (.array .byte)) (by decide) rfl rfl (g := (mkF m 2 #[vR a1, vR a2, vI 1, vI 5, .unset, .unset] [iR a2, iR a1])) rfl rfl (hb hby d5_2)
  have Fw1 := F_line.same W1
  have K1 : Keep h0 h1 [a1, s1, s2] := K0.wr W1 (Or.inl (List.mem_of_getElem? (i := 0) rfl))
  have N1 := Fr.snoc X1 N0 g_a1
  have fk2 := (F_count.other W1 (Or.inr (slot_ne (Or.inl (hw _ (List.mem_of_getElem? (i := 31) rfl))) (Or.inl (hw _ (List.mem_of_getElem? (i := 29) rfl))) (by decide) (t := .int) (t' := (.array .byte)) (by decide) (by decide))))
  have fk3 := (E_a1.wr W1)
  obtain ⟨T4, h4, X4, e4, W4, st4⟩ := putF X1 hx hZ hown (host := "") (Or.inl (hw _ (List.mem_of_getElem? (i := 30) rfl))) Via.refl e1 fk2 fk3 (Or.inl (hw _ (List.mem_of_getElem? (i := 31) rfl))) (hw _ (List.mem_of_getElem? (i := 10) rfl)) (ty := .int) (by decide) rfl rfl (g := (mkF m 7 #[vR a1, vR a2, vI 1, vI 5, .unset, .unset] [iI 0, iR a1])) rfl rfl (hb hby d5_7)
  have Fw4 := fk2.same W4
  have K4 : Keep h0 h4 [a1, s1, s2] := K1.wr W4 (Or.inl (List.mem_of_getElem? (i := 0) rfl))
  have N4 := Fr.snoc X4 N1 g_a1
  have fk5 := ((V_l.other W1 (Ne.symm ne_a1_a2)).other W4 (Ne.symm ne_a1_a2))
  obtain ⟨cl6, Ar6, q6, S6, M6, H6, G6⟩ := id fk5
  have hin7 : ¬ ((1 : Int32) < 0 ∨ cl6.slots.size ≤ ((1 : Int32)).toNatClampNeg) := inb_of S6 ⟨by decide, by decide⟩
  have hat8 : cl6.slots[((1 : Int32)).toNatClampNeg]? = some (.int x1) := Has.at H6 hin7 rfl
  obtain ⟨_, _, ⟨T9, L9, k9, n9⟩, -, X9, ⟨Lc9, hQ9, l9, y9, z9⟩, st9⟩ := callSN X4 hx (y := (⟨"com/example/tidemine/tidemine/TextFormat", "isSeparator", "(B)Z"⟩ : MethodName)) hown (Cond.methodLinkNest_wide hZ (hw _ (List.mem_of_getElem? (i := 32) rfl))) (mvT hZ (hw _ (List.mem_of_getElem? (i := 33) rfl))) (mvT hZ (hw _ (List.mem_of_getElem? (i := 34) rfl))) (mvT hZ (hw _ (List.mem_of_getElem? (i := 35) rfl))) (by decide) (backOf (W := 0) (rm6 l Z a0 hw [] x1 h4 ) hZ (hw _ (List.mem_of_getElem? (i := 35) rfl)) (hw _ (List.mem_of_getElem? (i := 34) rfl)) (by decide) (by decide)) (g := (mkF m 29 #[vR a1, vR a2, vI 1, vI 5, vI 1, .unset] [iI x1])) rfl (by rw [hml]; rfl) (argsL := [(.int x1)]) (rest := []) (lenOf pd_0 rfl) rfl (by show 2 * 0 + _ ≤ _; exact Nat.le_of_eq rfl) (hb hby d5_29) (fun _ _ => ⟨rfl, e4, (by decide : 0 + 0 ≤ _), (by decide : 0 + 0 ≤ _)⟩)
  dsimp only [Pt.U, Pt.locs, Pt.cells, Pt.slots] at X9 l9 y9 z9 st9 hQ9
  subst l9 y9 z9
  obtain ⟨rfl, rfl, e9⟩ := hQ9
  try rw [List.append_nil] at X9
  have hin10 : ¬ ((1 : Int32) < 0 ∨ cl6.slots.size ≤ ((1 : Int32)).toNatClampNeg) := inb_of S6 ⟨by decide, by decide⟩
  have hat11 : cl6.slots[((1 : Int32)).toNatClampNeg]? = some (.int x1) := Has.at H6 hin10 rfl
  obtain ⟨_, _, ⟨T12, L12, k12, n12⟩, -, X12, ⟨Lc12, hQ12, l12, y12, z12⟩, st12⟩ := callSN X9 hx (y := (⟨"com/example/tidemine/tidemine/TextFormat", "isSeparator", "(B)Z"⟩ : MethodName)) hown (Cond.methodLinkNest_wide hZ (hw _ (List.mem_of_getElem? (i := 32) rfl))) (mvT hZ (hw _ (List.mem_of_getElem? (i := 33) rfl))) (mvT hZ (hw _ (List.mem_of_getElem? (i := 34) rfl))) (mvT hZ (hw _ (List.mem_of_getElem? (i := 35) rfl))) (by decide) (backOf (W := 0) (rm6 l Z a0 hw [] x1 h4 ) hZ (hw _ (List.mem_of_getElem? (i := 35) rfl)) (hw _ (List.mem_of_getElem? (i := 34) rfl)) (by decide) (by decide)) (g := (mkF m 55 #[vR a1, vR a2, vI 1, vI 5, vI 1, vI 1] [iI x1])) rfl (by rw [hml]; rfl) (argsL := [(.int x1)]) (rest := []) (lenOf pd_0 rfl) rfl (by show 2 * 0 + _ ≤ _; exact Nat.le_of_eq rfl) (hb hby d5_55) (fun _ _ => ⟨rfl, e9, (by decide : 0 + 0 ≤ _), (by decide : 0 + 0 ≤ _)⟩)
  dsimp only [Pt.U, Pt.locs, Pt.cells, Pt.slots] at X12 l12 y12 z12 st12 hQ12
  subst l12 y12 z12
  obtain ⟨rfl, rfl, e12⟩ := hQ12
  try rw [List.append_nil] at X12
  have hin13 : ¬ ((2 : Int32) < 0 ∨ cl6.slots.size ≤ ((2 : Int32)).toNatClampNeg) := inb_of S6 ⟨by decide, by decide⟩
  have hat14 : cl6.slots[((2 : Int32)).toNatClampNeg]? = some (.int x2) := Has.at H6 hin13 rfl
  obtain ⟨_, _, ⟨T15, L15, k15, n15⟩, -, X15, ⟨Lc15, hQ15, l15, y15, z15⟩, st15⟩ := callSN X12 hx (y := (⟨"com/example/tidemine/tidemine/TextFormat", "isSeparator", "(B)Z"⟩ : MethodName)) hown (Cond.methodLinkNest_wide hZ (hw _ (List.mem_of_getElem? (i := 32) rfl))) (mvT hZ (hw _ (List.mem_of_getElem? (i := 33) rfl))) (mvT hZ (hw _ (List.mem_of_getElem? (i := 34) rfl))) (mvT hZ (hw _ (List.mem_of_getElem? (i := 35) rfl))) (by decide) (backOf (W := 0) (rm6 l Z a0 hw [] x2 h4 ) hZ (hw _ (List.mem_of_getElem? (i := 35) rfl)) (hw _ (List.mem_of_getElem? (i := 34) rfl)) (by decide) (by decide)) (g := (mkF m 55 #[vR a1, vR a2, vI 1, vI 5, vI 2, vI 1] [iI x2])) rfl (by rw [hml]; rfl) (argsL := [(.int x2)]) (rest := []) (lenOf pd_0 rfl) rfl (by show 2 * 0 + _ ≤ _; exact Nat.le_of_eq rfl) (hb hby d5_55) (fun _ _ => ⟨rfl, e12, (by decide : 0 + 0 ≤ _), (by decide : 0 + 0 ≤ _)⟩)
  dsimp only [Pt.U, Pt.locs, Pt.cells, Pt.slots] at X15 l15 y15 z15 st15 hQ15
  subst l15 y15 z15
  obtain ⟨rfl, rfl, e15⟩ := hQ15
  try rw [List.append_nil] at X15
  have hin16 : ¬ ((3 : Int32) < 0 ∨ cl6.slots.size ≤ ((3 : Int32)).toNatClampNeg) := inb_of S6 ⟨by decide, by decide⟩
  have hat17 : cl6.slots[((3 : Int32)).toNatClampNeg]? = some (.int x3) := Has.at H6 hin16 rfl
  obtain ⟨_, _, ⟨T18, L18, k18, n18⟩, -, X18, ⟨Lc18, hQ18, l18, y18, z18⟩, st18⟩ := callSN X15 hx (y := (⟨"com/example/tidemine/tidemine/TextFormat", "isSeparator", "(B)Z"⟩ : MethodName)) hown (Cond.methodLinkNest_wide hZ (hw _ (List.mem_of_getElem? (i := 32) rfl))) (mvT hZ (hw _ (List.mem_of_getElem? (i := 33) rfl))) (mvT hZ (hw _ (List.mem_of_getElem? (i := 34) rfl))) (mvT hZ (hw _ (List.mem_of_getElem? (i := 35) rfl))) (by decide) (backOf (W := 0) (rm6 l Z a0 hw [] x3 h4 ) hZ (hw _ (List.mem_of_getElem? (i := 35) rfl)) (hw _ (List.mem_of_getElem? (i := 34) rfl)) (by decide) (by decide)) (g := (mkF m 55 #[vR a1, vR a2, vI 1, vI 5, vI 3, vI 1] [iI x3])) rfl (by rw [hml]; rfl) (argsL := [(.int x3)]) (rest := []) (lenOf pd_0 rfl) rfl (by show 2 * 0 + _ ≤ _; exact Nat.le_of_eq rfl) (hb hby d5_55) (fun _ _ => ⟨rfl, e15, (by decide : 0 + 0 ≤ _), (by decide : 0 + 0 ≤ _)⟩)
  dsimp only [Pt.U, Pt.locs, Pt.cells, Pt.slots] at X18 l18 y18 z18 st18 hQ18
  subst l18 y18 z18
  obtain ⟨rfl, rfl, e18⟩ := hQ18
  try rw [List.append_nil] at X18
  obtain ⟨T19, X19, e19, st19⟩ := getF X18 hx hZ hown (host := "") (Or.inl (hw _ (List.mem_of_getElem? (i := 30) rfl))) Via.refl e18 Fw4 (g := (mkF m 75 #[vR a1, vR a2, vI 1, vI 5, vI 3, vI 1] [iR a1])) rfl rfl (hb hby d5_75)
  have fk20 := ((F_starts.other W1 (Or.inr (slot_ne (Or.inl (hw _ (List.mem_of_getElem? (i := 20) rfl))) (Or.inl (hw _ (List.mem_of_getElem? (i := 29) rfl))) (by decide) (t := (.array .int)) (t' := (.array .byte)) (by decide) (by decide)))).other W4 (Or.inr (slot_ne (Or.inl (hw _ (List.mem_of_getElem? (i := 20) rfl))) (Or.inl (hw _ (List.mem_of_getElem? (i := 31) rfl))) (by decide) (t := (.array .int)) (t' := .int) (by decide) (by decide))))
  obtain ⟨T21, X21, e21, st21⟩ := getF X19 hx hZ hown (host := "") (Or.inl (hw _ (List.mem_of_getElem? (i := 19) rfl))) Via.refl e19 fk20 (g := (mkF m 79 #[vR a1, vR a2, vI 1, vI 5, vI 3, vI 1] [iR a1, iI 0])) rfl rfl (hb hby d5_79)
  have fk22 := ((V_1.other W1 (Ne.symm ne_a1_s1)).other W4 (Ne.symm ne_a1_s1))
  obtain ⟨cl23, Ar23, q23, S23, M23, H23, G23⟩ := id fk22
  obtain ⟨T24, X24, e24, st24⟩ := getF X21 hx hZ hown (host := "") (Or.inl (hw _ (List.mem_of_getElem? (i := 19) rfl))) Via.refl e21 fk20 (g := (mkF m 121 #[vR a1, vR a2, vI 1, vI 5, vI 3, vI 1] [iR a1])) rfl rfl (hb hby d5_121)
  obtain ⟨T25, X25, e25, st25⟩ := getF X24 hx hZ hown (host := "") (Or.inl (hw _ (List.mem_of_getElem? (i := 30) rfl))) Via.refl e24 Fw4 (g := (mkF m 125 #[vR a1, vR a2, vI 1, vI 5, vI 3, vI 1] [iR a1, iR s1])) rfl rfl (hb hby d5_125)
  have hin26 : ¬ ((0 : Int32) < 0 ∨ cl23.slots.size ≤ ((0 : Int32)).toNatClampNeg) := inb_of S23 ⟨by decide, by decide⟩
  obtain ⟨T27, h27, X27, e27, W27, st27⟩ := stI X25 hx hZ e25 Ar23 (j := (0 : Int32)) hin26 (g := (mkF m 130 #[vR a1, vR a2, vI 1, vI 5, vI 3, vI 1] [iI 1, iI 0, iR s1])) rfl rfl (hb hby d5_130)
  have V27 : Arv Z h27 s1 k1 .int (16 : Int32) [(.int (1 : Int32)), (.int (0 : Int32)), (.int (0 : Int32)), (.int (0 : Int32)), (.int (0 : Int32)), (.int (0 : Int32)), (.int (0 : Int32)), (.int (0 : Int32)), (.int (0 : Int32)), (.int (0 : Int32)), (.int (0 : Int32)), (.int (0 : Int32)), (.int (0 : Int32)), (.int (0 : Int32)), (.int (0 : Int32)), (.int (0 : Int32))] (.int (0 : Int32)) := Arv.set Ar23 q23 S23 M23 H23 G23 rfl W27 0 rfl (Nat.le_of_ble_eq_true rfl)
  have K27 : Keep h0 h27 [a1, s1, s2] := K4.wr W27 (Or.inl (List.mem_of_getElem? (i := 1) rfl))
  have N27 := Fr.snoc X27 N4 g_s1
  have fk28 := (((F_ends.other W1 (Or.inr (slot_ne (Or.inl (hw _ (List.mem_of_getElem? (i := 22) rfl))) (Or.inl (hw _ (List.mem_of_getElem? (i := 29) rfl))) (by decide) (t := (.array .int)) (t' := (.array .byte)) (by decide) (by decide)))).other W4 (Or.inr (slot_ne (Or.inl (hw _ (List.mem_of_getElem? (i := 22) rfl))) (Or.inl (hw _ (List.mem_of_getElem? (i := 31) rfl))) (by decide) (t := (.array .int)) (t' := .int) (by decide) (by decide)))).other W27 (Or.inl ne_a1_s1))
  obtain ⟨T29, X29, e29, st29⟩ := getF X27 hx hZ hown (host := "") (Or.inl (hw _ (List.mem_of_getElem? (i := 21) rfl))) Via.refl e27 fk28 (g := (mkF m 132 #[vR a1, vR a2, vI 1, vI 5, vI 3, vI 1] [iR a1])) rfl rfl (hb hby d5_132)
  have fk30 := (Fw4.other W27 (Or.inl ne_a1_s1))
  obtain ⟨T31, X31, e31, st31⟩ := getF X29 hx hZ hown (host := "") (Or.inl (hw _ (List.mem_of_getElem? (i := 30) rfl))) Via.refl e29 fk30 (g := (mkF m 136 #[vR a1, vR a2, vI 1, vI 5, vI 3, vI 1] [iR a1, iR s2])) rfl rfl (hb hby d5_136)
  have fk32 := (((V_2.other W1 (Ne.symm ne_a1_s2)).other W4 (Ne.symm ne_a1_s2)).other W27 (Ne.symm ne_s1_s2))
  obtain ⟨cl33, Ar33, q33, S33, M33, H33, G33⟩ := id fk32
  have hin34 : ¬ ((0 : Int32) < 0 ∨ cl33.slots.size ≤ ((0 : Int32)).toNatClampNeg) := inb_of S33 ⟨by decide, by decide⟩
  obtain ⟨T35, h35, X35, e35, W35, st35⟩ := stI X31 hx hZ e31 Ar33 (j := (0 : Int32)) hin34 (g := (mkF m 141 #[vR a1, vR a2, vI 1, vI 5, vI 3, vI 1] [iI 3, iI 0, iR s2])) rfl rfl (hb hby d5_141)
  have V35 : Arv Z h35 s2 k2 .int (16 : Int32) [(.int (3 : Int32)), (.int (0 : Int32)), (.int (0 : Int32)), (.int (0 : Int32)), (.int (0 : Int32)), (.int (0 : Int32)), (.int (0 : Int32)), (.int (0 : Int32)), (.int (0 : Int32)), (.int (0 : Int32)), (.int (0 : Int32)), (.int (0 : Int32)), (.int (0 : Int32)), (.int (0 : Int32)), (.int (0 : Int32)), (.int (0 : Int32))] (.int (0 : Int32)) := Arv.set Ar33 q33 S33 M33 H33 G33 rfl W35 0 rfl (Nat.le_of_ble_eq_true rfl)
  have K35 : Keep h0 h35 [a1, s1, s2] := K27.wr W35 (Or.inl (List.mem_of_getElem? (i := 2) rfl))
  have N35 := Fr.snoc X35 N27 g_s2
  have fk36 := (fk30.other W35 (Or.inl ne_a1_s2))
  obtain ⟨T37, X37, e37, st37⟩ := getF X35 hx hZ hown (host := "") (Or.inl (hw _ (List.mem_of_getElem? (i := 30) rfl))) Via.refl e35 fk36 (g := (mkF m 144 #[vR a1, vR a2, vI 1, vI 5, vI 3, vI 1] [iR a1, iR a1])) rfl rfl (hb hby d5_144)
  have fk38 := (((fk3.wr W4).wr W27).wr W35)
  obtain ⟨T39, h39, X39, e39, W39, st39⟩ := putF X37 hx hZ hown (host := "") (Or.inl (hw _ (List.mem_of_getElem? (i := 30) rfl))) Via.refl e37 fk36 fk38 (Or.inl (hw _ (List.mem_of_getElem? (i := 31) rfl))) (hw _ (List.mem_of_getElem? (i := 10) rfl)) (ty := .int) (by decide) rfl rfl (g := (mkF m 149 #[vR a1, vR a2, vI 1, vI 5, vI 3, vI 1] [iI 1, iR a1])) rfl rfl (hb hby d5_149)
  have Fw39 := fk36.same W39
  have K39 : Keep h0 h39 [a1, s1, s2] := K35.wr W39 (Or.inl (List.mem_of_getElem? (i := 0) rfl))
  have N39 := Fr.snoc X39 N35 g_a1
  have fk40 := (((fk5.other W27 ne_a2_s1).other W35 ne_a2_s2).other W39 (Ne.symm ne_a1_a2))
  obtain ⟨cl41, Ar41, q41, S41, M41, H41, G41⟩ := id fk40
  have hin42 : ¬ ((3 : Int32) < 0 ∨ cl41.slots.size ≤ ((3 : Int32)).toNatClampNeg) := inb_of S41 ⟨by decide, by decide⟩
  have hat43 : cl41.slots[((3 : Int32)).toNatClampNeg]? = some (.int x3) := Has.at H41 hin42 rfl
  obtain ⟨_, _, ⟨T44, L44, k44, n44⟩, -, X44, ⟨Lc44, hQ44, l44, y44, z44⟩, st44⟩ := callSN X39 hx (y := (⟨"com/example/tidemine/tidemine/TextFormat", "isSeparator", "(B)Z"⟩ : MethodName)) hown (Cond.methodLinkNest_wide hZ (hw _ (List.mem_of_getElem? (i := 32) rfl))) (mvT hZ (hw _ (List.mem_of_getElem? (i := 33) rfl))) (mvT hZ (hw _ (List.mem_of_getElem? (i := 34) rfl))) (mvT hZ (hw _ (List.mem_of_getElem? (i := 35) rfl))) (by decide) (backOf (W := 0) (rm6 l Z a0 hw [] x3 h39 ) hZ (hw _ (List.mem_of_getElem? (i := 35) rfl)) (hw _ (List.mem_of_getElem? (i := 34) rfl)) (by decide) (by decide)) (g := (mkF m 29 #[vR a1, vR a2, vI 1, vI 5, vI 3, vI 1] [iI x3])) rfl (by rw [hml]; rfl) (argsL := [(.int x3)]) (rest := []) (lenOf pd_0 rfl) rfl (by show 2 * 0 + _ ≤ _; exact Nat.le_of_eq rfl) (hb hby d5_29) (fun _ _ => ⟨rfl, e39, (by decide : 0 + 0 ≤ _), (by decide : 0 + 0 ≤ _)⟩)
  dsimp only [Pt.U, Pt.locs, Pt.cells, Pt.slots] at X44 l44 y44 z44 st44 hQ44
  subst l44 y44 z44
  obtain ⟨rfl, rfl, e44⟩ := hQ44
  try rw [List.append_nil] at X44
  have hin45 : ¬ ((4 : Int32) < 0 ∨ cl41.slots.size ≤ ((4 : Int32)).toNatClampNeg) := inb_of S41 ⟨by decide, by decide⟩
  have hat46 : cl41.slots[((4 : Int32)).toNatClampNeg]? = some (.int x4) := Has.at H41 hin45 rfl
  obtain ⟨_, _, ⟨T47, L47, k47, n47⟩, -, X47, ⟨Lc47, hQ47, l47, y47, z47⟩, st47⟩ := callSN X44 hx (y := (⟨"com/example/tidemine/tidemine/TextFormat", "isSeparator", "(B)Z"⟩ : MethodName)) hown (Cond.methodLinkNest_wide hZ (hw _ (List.mem_of_getElem? (i := 32) rfl))) (mvT hZ (hw _ (List.mem_of_getElem? (i := 33) rfl))) (mvT hZ (hw _ (List.mem_of_getElem? (i := 34) rfl))) (mvT hZ (hw _ (List.mem_of_getElem? (i := 35) rfl))) (by decide) (backOf (W := 0) (rm6 l Z a0 hw [] x4 h39 ) hZ (hw _ (List.mem_of_getElem? (i := 35) rfl)) (hw _ (List.mem_of_getElem? (i := 34) rfl)) (by decide) (by decide)) (g := (mkF m 29 #[vR a1, vR a2, vI 1, vI 5, vI 4, vI 1] [iI x4])) rfl (by rw [hml]; rfl) (argsL := [(.int x4)]) (rest := []) (lenOf pd_0 rfl) rfl (by show 2 * 0 + _ ≤ _; exact Nat.le_of_eq rfl) (hb hby d5_29) (fun _ _ => ⟨rfl, e44, (by decide : 0 + 0 ≤ _), (by decide : 0 + 0 ≤ _)⟩)
  dsimp only [Pt.U, Pt.locs, Pt.cells, Pt.slots] at X47 l47 y47 z47 st47 hQ47
  subst l47 y47 z47
  obtain ⟨rfl, rfl, e47⟩ := hQ47
  try rw [List.append_nil] at X47
  have hin48 : ¬ ((4 : Int32) < 0 ∨ cl41.slots.size ≤ ((4 : Int32)).toNatClampNeg) := inb_of S41 ⟨by decide, by decide⟩
  have hat49 : cl41.slots[((4 : Int32)).toNatClampNeg]? = some (.int x4) := Has.at H41 hin48 rfl
  obtain ⟨_, _, ⟨T50, L50, k50, n50⟩, -, X50, ⟨Lc50, hQ50, l50, y50, z50⟩, st50⟩ := callSN X47 hx (y := (⟨"com/example/tidemine/tidemine/TextFormat", "isSeparator", "(B)Z"⟩ : MethodName)) hown (Cond.methodLinkNest_wide hZ (hw _ (List.mem_of_getElem? (i := 32) rfl))) (mvT hZ (hw _ (List.mem_of_getElem? (i := 33) rfl))) (mvT hZ (hw _ (List.mem_of_getElem? (i := 34) rfl))) (mvT hZ (hw _ (List.mem_of_getElem? (i := 35) rfl))) (by decide) (backOf (W := 0) (rm6 l Z a0 hw [] x4 h39 ) hZ (hw _ (List.mem_of_getElem? (i := 35) rfl)) (hw _ (List.mem_of_getElem? (i := 34) rfl)) (by decide) (by decide)) (g := (mkF m 55 #[vR a1, vR a2, vI 1, vI 5, vI 4, vI 4] [iI x4])) rfl (by rw [hml]; rfl) (argsL := [(.int x4)]) (rest := []) (lenOf pd_0 rfl) rfl (by show 2 * 0 + _ ≤ _; exact Nat.le_of_eq rfl) (hb hby d5_55) (fun _ _ => ⟨rfl, e47, (by decide : 0 + 0 ≤ _), (by decide : 0 + 0 ≤ _)⟩)
  dsimp only [Pt.U, Pt.locs, Pt.cells, Pt.slots] at X50 l50 y50 z50 st50 hQ50
  subst l50 y50 z50
  obtain ⟨rfl, rfl, e50⟩ := hQ50
  try rw [List.append_nil] at X50
  obtain ⟨T51, X51, e51, st51⟩ := getF X50 hx hZ hown (host := "") (Or.inl (hw _ (List.mem_of_getElem? (i := 30) rfl))) Via.refl e50 Fw39 (g := (mkF m 75 #[vR a1, vR a2, vI 1, vI 5, vI 5, vI 4] [iR a1])) rfl rfl (hb hby d5_75)
  have fk52 := (((fk20.other W27 (Or.inl ne_a1_s1)).other W35 (Or.inl ne_a1_s2)).other W39 (Or.inr (slot_ne (Or.inl (hw _ (List.mem_of_getElem? (i := 20) rfl))) (Or.inl (hw _ (List.mem_of_getElem? (i := 31) rfl))) (by decide) (t := (.array .int)) (t' := .int) (by decide) (by decide))))
  obtain ⟨T53, X53, e53, st53⟩ := getF X51 hx hZ hown (host := "") (Or.inl (hw _ (List.mem_of_getElem? (i := 19) rfl))) Via.refl e51 fk52 (g := (mkF m 79 #[vR a1, vR a2, vI 1, vI 5, vI 5, vI 4] [iR a1, iI 1])) rfl rfl (hb hby d5_79)
  have fk54 := ((V27.other W35 ne_s1_s2).other W39 (Ne.symm ne_a1_s1))
  obtain ⟨cl55, Ar55, q55, S55, M55, H55, G55⟩ := id fk54
  obtain ⟨T56, X56, e56, st56⟩ := getF X53 hx hZ hown (host := "") (Or.inl (hw _ (List.mem_of_getElem? (i := 19) rfl))) Via.refl e53 fk52 (g := (mkF m 121 #[vR a1, vR a2, vI 1, vI 5, vI 5, vI 4] [iR a1])) rfl rfl (hb hby d5_121)
  obtain ⟨T57, X57, e57, st57⟩ := getF X56 hx hZ hown (host := "") (Or.inl (hw _ (List.mem_of_getElem? (i := 30) rfl))) Via.refl e56 Fw39 (g := (mkF m 125 #[vR a1, vR a2, vI 1, vI 5, vI 5, vI 4] [iR a1, iR s1])) rfl rfl (hb hby d5_125)
  have hin58 : ¬ ((1 : Int32) < 0 ∨ cl55.slots.size ≤ ((1 : Int32)).toNatClampNeg) := inb_of S55 ⟨by decide, by decide⟩
  obtain ⟨T59, h59, X59, e59, W59, st59⟩ := stI X57 hx hZ e57 Ar55 (j := (1 : Int32)) hin58 (g := (mkF m 130 #[vR a1, vR a2, vI 1, vI 5, vI 5, vI 4] [iI 4, iI 1, iR s1])) rfl rfl (hb hby d5_130)
  have V59 : Arv Z h59 s1 k1 .int (16 : Int32) [(.int (1 : Int32)), (.int (4 : Int32)), (.int (0 : Int32)), (.int (0 : Int32)), (.int (0 : Int32)), (.int (0 : Int32)), (.int (0 : Int32)), (.int (0 : Int32)), (.int (0 : Int32)), (.int (0 : Int32)), (.int (0 : Int32)), (.int (0 : Int32)), (.int (0 : Int32)), (.int (0 : Int32)), (.int (0 : Int32)), (.int (0 : Int32))] (.int (0 : Int32)) := Arv.set Ar55 q55 S55 M55 H55 G55 rfl W59 1 rfl (Nat.le_of_ble_eq_true rfl)
  have K59 : Keep h0 h59 [a1, s1, s2] := K39.wr W59 (Or.inl (List.mem_of_getElem? (i := 1) rfl))
  have N59 := Fr.snoc X59 N39 g_s1
  have fk60 := (((fk28.other W35 (Or.inl ne_a1_s2)).other W39 (Or.inr (slot_ne (Or.inl (hw _ (List.mem_of_getElem? (i := 22) rfl))) (Or.inl (hw _ (List.mem_of_getElem? (i := 31) rfl))) (by decide) (t := (.array .int)) (t' := .int) (by decide) (by decide)))).other W59 (Or.inl ne_a1_s1))
  obtain ⟨T61, X61, e61, st61⟩ := getF X59 hx hZ hown (host := "") (Or.inl (hw _ (List.mem_of_getElem? (i := 21) rfl))) Via.refl e59 fk60 (g := (mkF m 132 #[vR a1, vR a2, vI 1, vI 5, vI 5, vI 4] [iR a1])) rfl rfl (hb hby d5_132)
  have fk62 := (Fw39.other W59 (Or.inl ne_a1_s1))
  obtain ⟨T63, X63, e63, st63⟩ := getF X61 hx hZ hown (host := "") (Or.inl (hw _ (List.mem_of_getElem? (i := 30) rfl))) Via.refl e61 fk62 (g := (mkF m 136 #[vR a1, vR a2, vI 1, vI 5, vI 5, vI 4] [iR a1, iR s2])) rfl rfl (hb hby d5_136)
  have fk64 := ((V35.other W39 (Ne.symm ne_a1_s2)).other W59 (Ne.symm ne_s1_s2))
  obtain ⟨cl65, Ar65, q65, S65, M65, H65, G65⟩ := id fk64
  have hin66 : ¬ ((1 : Int32) < 0 ∨ cl65.slots.size ≤ ((1 : Int32)).toNatClampNeg) := inb_of S65 ⟨by decide, by decide⟩
  obtain ⟨T67, h67, X67, e67, W67, st67⟩ := stI X63 hx hZ e63 Ar65 (j := (1 : Int32)) hin66 (g := (mkF m 141 #[vR a1, vR a2, vI 1, vI 5, vI 5, vI 4] [iI 5, iI 1, iR s2])) rfl rfl (hb hby d5_141)
  have V67 : Arv Z h67 s2 k2 .int (16 : Int32) [(.int (3 : Int32)), (.int (5 : Int32)), (.int (0 : Int32)), (.int (0 : Int32)), (.int (0 : Int32)), (.int (0 : Int32)), (.int (0 : Int32)), (.int (0 : Int32)), (.int (0 : Int32)), (.int (0 : Int32)), (.int (0 : Int32)), (.int (0 : Int32)), (.int (0 : Int32)), (.int (0 : Int32)), (.int (0 : Int32)), (.int (0 : Int32))] (.int (0 : Int32)) := Arv.set Ar65 q65 S65 M65 H65 G65 rfl W67 1 rfl (Nat.le_of_ble_eq_true rfl)
  have K67 : Keep h0 h67 [a1, s1, s2] := K59.wr W67 (Or.inl (List.mem_of_getElem? (i := 2) rfl))
  have N67 := Fr.snoc X67 N59 g_s2
  have fk68 := (fk62.other W67 (Or.inl ne_a1_s2))
  obtain ⟨T69, X69, e69, st69⟩ := getF X67 hx hZ hown (host := "") (Or.inl (hw _ (List.mem_of_getElem? (i := 30) rfl))) Via.refl e67 fk68 (g := (mkF m 144 #[vR a1, vR a2, vI 1, vI 5, vI 5, vI 4] [iR a1, iR a1])) rfl rfl (hb hby d5_144)
  have fk70 := (((fk38.wr W39).wr W59).wr W67)
  obtain ⟨T71, h71, X71, e71, W71, st71⟩ := putF X69 hx hZ hown (host := "") (Or.inl (hw _ (List.mem_of_getElem? (i := 30) rfl))) Via.refl e69 fk68 fk70 (Or.inl (hw _ (List.mem_of_getElem? (i := 31) rfl))) (hw _ (List.mem_of_getElem? (i := 10) rfl)) (ty := .int) (by decide) rfl rfl (g := (mkF m 149 #[vR a1, vR a2, vI 1, vI 5, vI 5, vI 4] [iI 2, iR a1])) rfl rfl (hb hby d5_149)
  have Fw71 := fk68.same W71
  have K71 : Keep h0 h71 [a1, s1, s2] := K67.wr W71 (Or.inl (List.mem_of_getElem? (i := 0) rfl))
  have N71 := Fr.snoc X71 N67 g_a1
  obtain ⟨fs, hr, hrun, hended, hW, hsame⟩ := X71.leave (v := none) (fun _ => rfl)
  have fk72 := (fk70.wr W71)
  have fk73 := (((((((Fw1.other W4 (Or.inr (slot_ne (Or.inl (hw _ (List.mem_of_getElem? (i := 29) rfl))) (Or.inl (hw _ (List.mem_of_getElem? (i := 31) rfl))) (by decide) (t := (.array .byte)) (t' := .int) (by decide) (by decide)))).other W27 (Or.inl ne_a1_s1)).other W35 (Or.inl ne_a1_s2)).other W39 (Or.inr (slot_ne (Or.inl (hw _ (List.mem_of_getElem? (i := 29) rfl))) (Or.inl (hw _ (List.mem_of_getElem? (i := 31) rfl))) (by decide) (t := (.array .byte)) (t' := .int) (by decide) (by decide)))).other W59 (Or.inl ne_a1_s1)).other W67 (Or.inl ne_a1_s2)).other W71 (Or.inr (slot_ne (Or.inl (hw _ (List.mem_of_getElem? (i := 29) rfl))) (Or.inl (hw _ (List.mem_of_getElem? (i := 31) rfl))) (by decide) (t := (.array .byte)) (t' := .int) (by decide) (by decide))))
  have fk74 := (((fk52.other W59 (Or.inl ne_a1_s1)).other W67 (Or.inl ne_a1_s2)).other W71 (Or.inr (slot_ne (Or.inl (hw _ (List.mem_of_getElem? (i := 20) rfl))) (Or.inl (hw _ (List.mem_of_getElem? (i := 31) rfl))) (by decide) (t := (.array .int)) (t' := .int) (by decide) (by decide))))
  have fk75 := ((fk60.other W67 (Or.inl ne_a1_s2)).other W71 (Or.inr (slot_ne (Or.inl (hw _ (List.mem_of_getElem? (i := 22) rfl))) (Or.inl (hw _ (List.mem_of_getElem? (i := 31) rfl))) (by decide) (t := (.array .int)) (t' := .int) (by decide) (by decide))))
  have fk76 := ((V59.other W67 ne_s1_s2).other W71 (Ne.symm ne_a1_s1))
  have fk77 := (V67.other W71 (Ne.symm ne_a1_s2))
  refine ⟨_, _, pre0 _ ?_, hrun, hended, _, _, rfl, ?_, ⟨_, rfl⟩, hW, hsame.mono (by decide) (by decide)⟩
  · show Steps _ _ _ (s₁.setTop (mkF m 0 #[vR a1, vR a2, vI 1, vI 5, .unset, .unset] [])) _
    refine XS.aloadN X0.here hx rfl (hb hby d5_0) rfl rfl ?_
    show Steps _ _ _ (s₁.setTop (mkF m 1 #[vR a1, vR a2, vI 1, vI 5, .unset, .unset] [iR a1])) _
    refine XS.aloadN X0.here hx rfl (hb hby d5_1) rfl rfl ?_
    show Steps _ _ _ (s₁.setTop (mkF m 2 #[vR a1, vR a2, vI 1, vI 5, .unset, .unset] [iR a2, iR a1])) _
    refine st1 _ ?_
    show Steps _ _ _ (T1.setTop (mkF m 5 #[vR a1, vR a2, vI 1, vI 5, .unset, .unset] [])) _
    refine XS.aloadN X1.here hx rfl (hb hby d5_5) rfl rfl ?_
    show Steps _ _ _ (T1.setTop (mkF m 6 #[vR a1, vR a2, vI 1, vI 5, .unset, .unset] [iR a1])) _
    refine XS.iconst X1.here hx rfl (hb hby d5_6) ?_
    show Steps _ _ _ (T1.setTop (mkF m 7 #[vR a1, vR a2, vI 1, vI 5, .unset, .unset] [iI 0, iR a1])) _
    refine st4 _ ?_
    show Steps _ _ _ (T4.setTop (mkF m 10 #[vR a1, vR a2, vI 1, vI 5, .unset, .unset] [])) _
    refine XS.iloadN X4.here hx rfl (hb hby d5_10) rfl ?_
    show Steps _ _ _ (T4.setTop (mkF m 11 #[vR a1, vR a2, vI 1, vI 5, .unset, .unset] [iI 1])) _
    refine XS.istore X4.here hx rfl (hb hby d5_11) rfl (l' := #[vR a1, vR a2, vI 1, vI 5, vI 1, .unset]) rfl ?_
    show Steps _ _ _ (T4.setTop (mkF m 13 #[vR a1, vR a2, vI 1, vI 5, vI 1, .unset] [])) _
    refine XS.iload X4.here hx rfl (hb hby d5_13) rfl ?_
    show Steps _ _ _ (T4.setTop (mkF m 15 #[vR a1, vR a2, vI 1, vI 5, vI 1, .unset] [iI 1])) _
    refine XS.iloadN X4.here hx rfl (hb hby d5_15) rfl ?_
    show Steps _ _ _ (T4.setTop (mkF m 16 #[vR a1, vR a2, vI 1, vI 5, vI 1, .unset] [iI 5, iI 1])) _
    refine XS.icmpNo X4.here hx rfl (hb hby d5_16) rfl (tlt (by decide : (1 : Int32) < (5 : Int32))).2.1 ?_
    show Steps _ _ _ (T4.setTop (mkF m 19 #[vR a1, vR a2, vI 1, vI 5, vI 1, .unset] [])) _
    refine XS.iload X4.here hx rfl (hb hby d5_19) rfl ?_
    show Steps _ _ _ (T4.setTop (mkF m 21 #[vR a1, vR a2, vI 1, vI 5, vI 1, .unset] [iI 1])) _
    refine XS.iloadN X4.here hx rfl (hb hby d5_21) rfl ?_
    show Steps _ _ _ (T4.setTop (mkF m 22 #[vR a1, vR a2, vI 1, vI 5, vI 1, .unset] [iI 5, iI 1])) _
    refine XS.icmpNo X4.here hx rfl (hb hby d5_22) rfl (tlt (by decide : (1 : Int32) < (5 : Int32))).2.1 ?_
    show Steps _ _ _ (T4.setTop (mkF m 25 #[vR a1, vR a2, vI 1, vI 5, vI 1, .unset] [])) _
    refine XS.aloadN X4.here hx rfl (hb hby d5_25) rfl rfl ?_
    show Steps _ _ _ (T4.setTop (mkF m 26 #[vR a1, vR a2, vI 1, vI 5, vI 1, .unset] [iR a2])) _
    refine XS.iload X4.here hx rfl (hb hby d5_26) rfl ?_
    show Steps _ _ _ (T4.setTop (mkF m 28 #[vR a1, vR a2, vI 1, vI 5, vI 1, .unset] [iI 1, iR a2])) _
    refine X4.baloadBytes hx (j := (1 : Int32)) (v := (.int x1)) (by rw [e4]; exact Ar6.1) (State.isArrayOf_alike hZ.alike Ar6.2.1) Ar6.2.2 hin7 hat8 (g := (mkF m 28 #[vR a1, vR a2, vI 1, vI 5, vI 1, .unset] [iI 1, iR a2])) rfl rfl (hb hby d5_28) _ ?_
    show Steps _ _ _ (T4.setTop (mkF m 29 #[vR a1, vR a2, vI 1, vI 5, vI 1, .unset] [iI x1])) _
    refine st9.trans ?_
    show Steps _ _ _ (T9.setTop (mkF m 32 #[vR a1, vR a2, vI 1, vI 5, vI 1, .unset] [iI (own_sep x1)])) _
    refine XS.ifYes X9.here hx rfl (pc0 := 32) (pc' := 41) rfl (hb hby d5_32) rfl ((if0 _ _).trans (teq hx1).1) (by decide) (by decide) ?_
    show Steps _ _ _ (T9.setTop (mkF m 41 #[vR a1, vR a2, vI 1, vI 5, vI 1, .unset] [])) _
    refine XS.iload X9.here hx rfl (hb hby d5_41) rfl ?_
    show Steps _ _ _ (T9.setTop (mkF m 43 #[vR a1, vR a2, vI 1, vI 5, vI 1, .unset] [iI 1])) _
    refine XS.istore X9.here hx rfl (hb hby d5_43) rfl (l' := #[vR a1, vR a2, vI 1, vI 5, vI 1, vI 1]) rfl ?_
    show Steps _ _ _ (T9.setTop (mkF m 45 #[vR a1, vR a2, vI 1, vI 5, vI 1, vI 1] [])) _
    refine XS.iload X9.here hx rfl (hb hby d5_45) rfl ?_
    show Steps _ _ _ (T9.setTop (mkF m 47 #[vR a1, vR a2, vI 1, vI 5, vI 1, vI 1] [iI 1])) _
    refine XS.iloadN X9.here hx rfl (hb hby d5_47) rfl ?_
    show Steps _ _ _ (T9.setTop (mkF m 48 #[vR a1, vR a2, vI 1, vI 5, vI 1, vI 1] [iI 5, iI 1])) _
    refine XS.icmpNo X9.here hx rfl (hb hby d5_48) rfl (tlt (by decide : (1 : Int32) < (5 : Int32))).2.1 ?_
    show Steps _ _ _ (T9.setTop (mkF m 51 #[vR a1, vR a2, vI 1, vI 5, vI 1, vI 1] [])) _
    refine XS.aloadN X9.here hx rfl (hb hby d5_51) rfl rfl ?_
    show Steps _ _ _ (T9.setTop (mkF m 52 #[vR a1, vR a2, vI 1, vI 5, vI 1, vI 1] [iR a2])) _
    refine XS.iload X9.here hx rfl (hb hby d5_52) rfl ?_
    show Steps _ _ _ (T9.setTop (mkF m 54 #[vR a1, vR a2, vI 1, vI 5, vI 1, vI 1] [iI 1, iR a2])) _
    refine X9.baloadBytes hx (j := (1 : Int32)) (v := (.int x1)) (by rw [e9]; exact Ar6.1) (State.isArrayOf_alike hZ.alike Ar6.2.1) Ar6.2.2 hin10 hat11 (g := (mkF m 54 #[vR a1, vR a2, vI 1, vI 5, vI 1, vI 1] [iI 1, iR a2])) rfl rfl (hb hby d5_54) _ ?_
    show Steps _ _ _ (T9.setTop (mkF m 55 #[vR a1, vR a2, vI 1, vI 5, vI 1, vI 1] [iI x1])) _
    refine st12.trans ?_
    show Steps _ _ _ (T12.setTop (mkF m 58 #[vR a1, vR a2, vI 1, vI 5, vI 1, vI 1] [iI (own_sep x1)])) _
    refine XS.ifNo X12.here hx rfl (hb hby d5_58) rfl ((if0 _ _).trans (teq hx1).2) ?_
    show Steps _ _ _ (T12.setTop (mkF m 61 #[vR a1, vR a2, vI 1, vI 5, vI 1, vI 1] [])) _
    refine XS.iinc X12.here hx rfl (hb hby d5_61) rfl (l' := #[vR a1, vR a2, vI 1, vI 5, vI ((1 : Int32) + (1 : Int32)), vI 1]) rfl ?_
    rw [(by decide : ((1 : Int32) + (1 : Int32)) = (2 : Int32))]
    show Steps _ _ _ (T12.setTop (mkF m 64 #[vR a1, vR a2, vI 1, vI 5, vI 2, vI 1] [])) _
    refine XS.goto X12.here hx rfl (pc0 := 64) (pc' := 45) rfl (hb hby d5_64) (by decide) (by decide) ?_
    show Steps _ _ _ (T12.setTop (mkF m 45 #[vR a1, vR a2, vI 1, vI 5, vI 2, vI 1] [])) _
    refine XS.iload X12.here hx rfl (hb hby d5_45) rfl ?_
    show Steps _ _ _ (T12.setTop (mkF m 47 #[vR a1, vR a2, vI 1, vI 5, vI 2, vI 1] [iI 2])) _
    refine XS.iloadN X12.here hx rfl (hb hby d5_47) rfl ?_
    show Steps _ _ _ (T12.setTop (mkF m 48 #[vR a1, vR a2, vI 1, vI 5, vI 2, vI 1] [iI 5, iI 2])) _
    refine XS.icmpNo X12.here hx rfl (hb hby d5_48) rfl (tlt (by decide : (2 : Int32) < (5 : Int32))).2.1 ?_
    show Steps _ _ _ (T12.setTop (mkF m 51 #[vR a1, vR a2, vI 1, vI 5, vI 2, vI 1] [])) _
    refine XS.aloadN X12.here hx rfl (hb hby d5_51) rfl rfl ?_
    show Steps _ _ _ (T12.setTop (mkF m 52 #[vR a1, vR a2, vI 1, vI 5, vI 2, vI 1] [iR a2])) _
    refine XS.iload X12.here hx rfl (hb hby d5_52) rfl ?_
    show Steps _ _ _ (T12.setTop (mkF m 54 #[vR a1, vR a2, vI 1, vI 5, vI 2, vI 1] [iI 2, iR a2])) _
    refine X12.baloadBytes hx (j := (2 : Int32)) (v := (.int x2)) (by rw [e12]; exact Ar6.1) (State.isArrayOf_alike hZ.alike Ar6.2.1) Ar6.2.2 hin13 hat14 (g := (mkF m 54 #[vR a1, vR a2, vI 1, vI 5, vI 2, vI 1] [iI 2, iR a2])) rfl rfl (hb hby d5_54) _ ?_
    show Steps _ _ _ (T12.setTop (mkF m 55 #[vR a1, vR a2, vI 1, vI 5, vI 2, vI 1] [iI x2])) _
    refine st15.trans ?_
    show Steps _ _ _ (T15.setTop (mkF m 58 #[vR a1, vR a2, vI 1, vI 5, vI 2, vI 1] [iI (own_sep x2)])) _
    refine XS.ifNo X15.here hx rfl (hb hby d5_58) rfl ((if0 _ _).trans (teq hx2).2) ?_
    show Steps _ _ _ (T15.setTop (mkF m 61 #[vR a1, vR a2, vI 1, vI 5, vI 2, vI 1] [])) _
    refine XS.iinc X15.here hx rfl (hb hby d5_61) rfl (l' := #[vR a1, vR a2, vI 1, vI 5, vI ((2 : Int32) + (1 : Int32)), vI 1]) rfl ?_
    rw [(by decide : ((2 : Int32) + (1 : Int32)) = (3 : Int32))]
    show Steps _ _ _ (T15.setTop (mkF m 64 #[vR a1, vR a2, vI 1, vI 5, vI 3, vI 1] [])) _
    refine XS.goto X15.here hx rfl (pc0 := 64) (pc' := 45) rfl (hb hby d5_64) (by decide) (by decide) ?_
    show Steps _ _ _ (T15.setTop (mkF m 45 #[vR a1, vR a2, vI 1, vI 5, vI 3, vI 1] [])) _
    refine XS.iload X15.here hx rfl (hb hby d5_45) rfl ?_
    show Steps _ _ _ (T15.setTop (mkF m 47 #[vR a1, vR a2, vI 1, vI 5, vI 3, vI 1] [iI 3])) _
    refine XS.iloadN X15.here hx rfl (hb hby d5_47) rfl ?_
    show Steps _ _ _ (T15.setTop (mkF m 48 #[vR a1, vR a2, vI 1, vI 5, vI 3, vI 1] [iI 5, iI 3])) _
    refine XS.icmpNo X15.here hx rfl (hb hby d5_48) rfl (tlt (by decide : (3 : Int32) < (5 : Int32))).2.1 ?_
    show Steps _ _ _ (T15.setTop (mkF m 51 #[vR a1, vR a2, vI 1, vI 5, vI 3, vI 1] [])) _
    refine XS.aloadN X15.here hx rfl (hb hby d5_51) rfl rfl ?_
    show Steps _ _ _ (T15.setTop (mkF m 52 #[vR a1, vR a2, vI 1, vI 5, vI 3, vI 1] [iR a2])) _
    refine XS.iload X15.here hx rfl (hb hby d5_52) rfl ?_
    show Steps _ _ _ (T15.setTop (mkF m 54 #[vR a1, vR a2, vI 1, vI 5, vI 3, vI 1] [iI 3, iR a2])) _
    refine X15.baloadBytes hx (j := (3 : Int32)) (v := (.int x3)) (by rw [e15]; exact Ar6.1) (State.isArrayOf_alike hZ.alike Ar6.2.1) Ar6.2.2 hin16 hat17 (g := (mkF m 54 #[vR a1, vR a2, vI 1, vI 5, vI 3, vI 1] [iI 3, iR a2])) rfl rfl (hb hby d5_54) _ ?_
    show Steps _ _ _ (T15.setTop (mkF m 55 #[vR a1, vR a2, vI 1, vI 5, vI 3, vI 1] [iI x3])) _
    refine st18.trans ?_
    show Steps _ _ _ (T18.setTop (mkF m 58 #[vR a1, vR a2, vI 1, vI 5, vI 3, vI 1] [iI (own_sep x3)])) _
    refine XS.ifYes X18.here hx rfl (pc0 := 58) (pc' := 67) rfl (hb hby d5_58) rfl ((if0 _ _).trans (feq hx3).2) (by decide) (by decide) ?_
    show Steps _ _ _ (T18.setTop (mkF m 67 #[vR a1, vR a2, vI 1, vI 5, vI 3, vI 1] [])) _
    refine XS.iload X18.here hx rfl (hb hby d5_67) rfl ?_
    show Steps _ _ _ (T18.setTop (mkF m 69 #[vR a1, vR a2, vI 1, vI 5, vI 3, vI 1] [iI 3])) _
    refine XS.iload X18.here hx rfl (hb hby d5_69) rfl ?_
    show Steps _ _ _ (T18.setTop (mkF m 71 #[vR a1, vR a2, vI 1, vI 5, vI 3, vI 1] [iI 1, iI 3])) _
    refine XS.icmpNo X18.here hx rfl (hb hby d5_71) rfl (tlt (by decide : (1 : Int32) < (3 : Int32))).2.2.2 ?_
    show Steps _ _ _ (T18.setTop (mkF m 74 #[vR a1, vR a2, vI 1, vI 5, vI 3, vI 1] [])) _
    refine XS.aloadN X18.here hx rfl (hb hby d5_74) rfl rfl ?_
    show Steps _ _ _ (T18.setTop (mkF m 75 #[vR a1, vR a2, vI 1, vI 5, vI 3, vI 1] [iR a1])) _
    refine st19 _ ?_
    show Steps _ _ _ (T19.setTop (mkF m 78 #[vR a1, vR a2, vI 1, vI 5, vI 3, vI 1] [iI 0])) _
    refine XS.aloadN X19.here hx rfl (hb hby d5_78) rfl rfl ?_
    show Steps _ _ _ (T19.setTop (mkF m 79 #[vR a1, vR a2, vI 1, vI 5, vI 3, vI 1] [iR a1, iI 0])) _
    refine st21 _ ?_
    show Steps _ _ _ (T21.setTop (mkF m 82 #[vR a1, vR a2, vI 1, vI 5, vI 3, vI 1] [iR s1, iI 0])) _
    refine X21.arraylength hx (by rw [e21]; exact Ar23.1) (State.isArrayOf_alike hZ.alike Ar23.2.1) (g := (mkF m 82 #[vR a1, vR a2, vI 1, vI 5, vI 3, vI 1] [iR s1, iI 0])) rfl rfl (hb hby d5_82) _ ?_
    rw [len_of S23 M23]
    show Steps _ _ _ (T21.setTop (mkF m 83 #[vR a1, vR a2, vI 1, vI 5, vI 3, vI 1] [iI 16, iI 0])) _
    refine XS.icmpYes X21.here hx rfl (pc0 := 83) (pc' := 120) rfl (hb hby d5_83) rfl (feq (by decide : ¬ ((0 : Int32) = (16 : Int32)))).2 (by decide) (by decide) ?_
    show Steps _ _ _ (T21.setTop (mkF m 120 #[vR a1, vR a2, vI 1, vI 5, vI 3, vI 1] [])) _
    refine XS.aloadN X21.here hx rfl (hb hby d5_120) rfl rfl ?_
    show Steps _ _ _ (T21.setTop (mkF m 121 #[vR a1, vR a2, vI 1, vI 5, vI 3, vI 1] [iR a1])) _
    refine st24 _ ?_
    show Steps _ _ _ (T24.setTop (mkF m 124 #[vR a1, vR a2, vI 1, vI 5, vI 3, vI 1] [iR s1])) _
    refine XS.aloadN X24.here hx rfl (hb hby d5_124) rfl rfl ?_
    show Steps _ _ _ (T24.setTop (mkF m 125 #[vR a1, vR a2, vI 1, vI 5, vI 3, vI 1] [iR a1, iR s1])) _
    refine st25 _ ?_
    show Steps _ _ _ (T25.setTop (mkF m 128 #[vR a1, vR a2, vI 1, vI 5, vI 3, vI 1] [iI 0, iR s1])) _
    refine XS.iload X25.here hx rfl (hb hby d5_128) rfl ?_
    show Steps _ _ _ (T25.setTop (mkF m 130 #[vR a1, vR a2, vI 1, vI 5, vI 3, vI 1] [iI 1, iI 0, iR s1])) _
    refine st27 _ ?_
    show Steps _ _ _ (T27.setTop (mkF m 131 #[vR a1, vR a2, vI 1, vI 5, vI 3, vI 1] [])) _
    refine XS.aloadN X27.here hx rfl (hb hby d5_131) rfl rfl ?_
    show Steps _ _ _ (T27.setTop (mkF m 132 #[vR a1, vR a2, vI 1, vI 5, vI 3, vI 1] [iR a1])) _
    refine st29 _ ?_
    show Steps _ _ _ (T29.setTop (mkF m 135 #[vR a1, vR a2, vI 1, vI 5, vI 3, vI 1] [iR s2])) _
    refine XS.aloadN X29.here hx rfl (hb hby d5_135) rfl rfl ?_
    show Steps _ _ _ (T29.setTop (mkF m 136 #[vR a1, vR a2, vI 1, vI 5, vI 3, vI 1] [iR a1, iR s2])) _
    refine st31 _ ?_
    show Steps _ _ _ (T31.setTop (mkF m 139 #[vR a1, vR a2, vI 1, vI 5, vI 3, vI 1] [iI 0, iR s2])) _
    refine XS.iload X31.here hx rfl (hb hby d5_139) rfl ?_
    show Steps _ _ _ (T31.setTop (mkF m 141 #[vR a1, vR a2, vI 1, vI 5, vI 3, vI 1] [iI 3, iI 0, iR s2])) _
    refine st35 _ ?_
    show Steps _ _ _ (T35.setTop (mkF m 142 #[vR a1, vR a2, vI 1, vI 5, vI 3, vI 1] [])) _
    refine XS.aloadN X35.here hx rfl (hb hby d5_142) rfl rfl ?_
    show Steps _ _ _ (T35.setTop (mkF m 143 #[vR a1, vR a2, vI 1, vI 5, vI 3, vI 1] [iR a1])) _
    refine XS.dup X35.here hx rfl (hb hby d5_143) rfl rfl ?_
    show Steps _ _ _ (T35.setTop (mkF m 144 #[vR a1, vR a2, vI 1, vI 5, vI 3, vI 1] [iR a1, iR a1])) _
    refine st37 _ ?_
    show Steps _ _ _ (T37.setTop (mkF m 147 #[vR a1, vR a2, vI 1, vI 5, vI 3, vI 1] [iI 0, iR a1])) _
    refine XS.iconst X37.here hx rfl (hb hby d5_147) ?_
    show Steps _ _ _ (T37.setTop (mkF m 148 #[vR a1, vR a2, vI 1, vI 5, vI 3, vI 1] [iI 1, iI 0, iR a1])) _
    refine XS.iadd X37.here hx rfl (hb hby d5_148) rfl ?_
    rw [(by decide : ((0 : Int32) + (1 : Int32)) = (1 : Int32))]
    show Steps _ _ _ (T37.setTop (mkF m 149 #[vR a1, vR a2, vI 1, vI 5, vI 3, vI 1] [iI 1, iR a1])) _
    refine st39 _ ?_
    show Steps _ _ _ (T39.setTop (mkF m 152 #[vR a1, vR a2, vI 1, vI 5, vI 3, vI 1] [])) _
    refine XS.goto X39.here hx rfl (pc0 := 152) (pc' := 13) rfl (hb hby d5_152) (by decide) (by decide) ?_
    show Steps _ _ _ (T39.setTop (mkF m 13 #[vR a1, vR a2, vI 1, vI 5, vI 3, vI 1] [])) _
    refine XS.iload X39.here hx rfl (hb hby d5_13) rfl ?_
    show Steps _ _ _ (T39.setTop (mkF m 15 #[vR a1, vR a2, vI 1, vI 5, vI 3, vI 1] [iI 3])) _
    refine XS.iloadN X39.here hx rfl (hb hby d5_15) rfl ?_
    show Steps _ _ _ (T39.setTop (mkF m 16 #[vR a1, vR a2, vI 1, vI 5, vI 3, vI 1] [iI 5, iI 3])) _
    refine XS.icmpNo X39.here hx rfl (hb hby d5_16) rfl (tlt (by decide : (3 : Int32) < (5 : Int32))).2.1 ?_
    show Steps _ _ _ (T39.setTop (mkF m 19 #[vR a1, vR a2, vI 1, vI 5, vI 3, vI 1] [])) _
    refine XS.iload X39.here hx rfl (hb hby d5_19) rfl ?_
    show Steps _ _ _ (T39.setTop (mkF m 21 #[vR a1, vR a2, vI 1, vI 5, vI 3, vI 1] [iI 3])) _
    refine XS.iloadN X39.here hx rfl (hb hby d5_21) rfl ?_
    show Steps _ _ _ (T39.setTop (mkF m 22 #[vR a1, vR a2, vI 1, vI 5, vI 3, vI 1] [iI 5, iI 3])) _
    refine XS.icmpNo X39.here hx rfl (hb hby d5_22) rfl (tlt (by decide : (3 : Int32) < (5 : Int32))).2.1 ?_
    show Steps _ _ _ (T39.setTop (mkF m 25 #[vR a1, vR a2, vI 1, vI 5, vI 3, vI 1] [])) _
    refine XS.aloadN X39.here hx rfl (hb hby d5_25) rfl rfl ?_
    show Steps _ _ _ (T39.setTop (mkF m 26 #[vR a1, vR a2, vI 1, vI 5, vI 3, vI 1] [iR a2])) _
    refine XS.iload X39.here hx rfl (hb hby d5_26) rfl ?_
    show Steps _ _ _ (T39.setTop (mkF m 28 #[vR a1, vR a2, vI 1, vI 5, vI 3, vI 1] [iI 3, iR a2])) _
    refine X39.baloadBytes hx (j := (3 : Int32)) (v := (.int x3)) (by rw [e39]; exact Ar41.1) (State.isArrayOf_alike hZ.alike Ar41.2.1) Ar41.2.2 hin42 hat43 (g := (mkF m 28 #[vR a1, vR a2, vI 1, vI 5, vI 3, vI 1] [iI 3, iR a2])) rfl rfl (hb hby d5_28) _ ?_
    show Steps _ _ _ (T39.setTop (mkF m 29 #[vR a1, vR a2, vI 1, vI 5, vI 3, vI 1] [iI x3])) _
    refine st44.trans ?_
    show Steps _ _ _ (T44.setTop (mkF m 32 #[vR a1, vR a2, vI 1, vI 5, vI 3, vI 1] [iI (own_sep x3)])) _
    refine XS.ifNo X44.here hx rfl (hb hby d5_32) rfl ((if0 _ _).trans (feq hx3).1) ?_
    show Steps _ _ _ (T44.setTop (mkF m 35 #[vR a1, vR a2, vI 1, vI 5, vI 3, vI 1] [])) _
    refine XS.iinc X44.here hx rfl (hb hby d5_35) rfl (l' := #[vR a1, vR a2, vI 1, vI 5, vI ((3 : Int32) + (1 : Int32)), vI 1]) rfl ?_
    rw [(by decide : ((3 : Int32) + (1 : Int32)) = (4 : Int32))]
    show Steps _ _ _ (T44.setTop (mkF m 38 #[vR a1, vR a2, vI 1, vI 5, vI 4, vI 1] [])) _
    refine XS.goto X44.here hx rfl (pc0 := 38) (pc' := 19) rfl (hb hby d5_38) (by decide) (by decide) ?_
    show Steps _ _ _ (T44.setTop (mkF m 19 #[vR a1, vR a2, vI 1, vI 5, vI 4, vI 1] [])) _
    refine XS.iload X44.here hx rfl (hb hby d5_19) rfl ?_
    show Steps _ _ _ (T44.setTop (mkF m 21 #[vR a1, vR a2, vI 1, vI 5, vI 4, vI 1] [iI 4])) _
    refine XS.iloadN X44.here hx rfl (hb hby d5_21) rfl ?_
    show Steps _ _ _ (T44.setTop (mkF m 22 #[vR a1, vR a2, vI 1, vI 5, vI 4, vI 1] [iI 5, iI 4])) _
    refine XS.icmpNo X44.here hx rfl (hb hby d5_22) rfl (tlt (by decide : (4 : Int32) < (5 : Int32))).2.1 ?_
    show Steps _ _ _ (T44.setTop (mkF m 25 #[vR a1, vR a2, vI 1, vI 5, vI 4, vI 1] [])) _
    refine XS.aloadN X44.here hx rfl (hb hby d5_25) rfl rfl ?_
    show Steps _ _ _ (T44.setTop (mkF m 26 #[vR a1, vR a2, vI 1, vI 5, vI 4, vI 1] [iR a2])) _
    refine XS.iload X44.here hx rfl (hb hby d5_26) rfl ?_
    show Steps _ _ _ (T44.setTop (mkF m 28 #[vR a1, vR a2, vI 1, vI 5, vI 4, vI 1] [iI 4, iR a2])) _
    refine X44.baloadBytes hx (j := (4 : Int32)) (v := (.int x4)) (by rw [e44]; exact Ar41.1) (State.isArrayOf_alike hZ.alike Ar41.2.1) Ar41.2.2 hin45 hat46 (g := (mkF m 28 #[vR a1, vR a2, vI 1, vI 5, vI 4, vI 1] [iI 4, iR a2])) rfl rfl (hb hby d5_28) _ ?_
    show Steps _ _ _ (T44.setTop (mkF m 29 #[vR a1, vR a2, vI 1, vI 5, vI 4, vI 1] [iI x4])) _
    refine st47.trans ?_
    show Steps _ _ _ (T47.setTop (mkF m 32 #[vR a1, vR a2, vI 1, vI 5, vI 4, vI 1] [iI (own_sep x4)])) _
    refine XS.ifYes X47.here hx rfl (pc0 := 32) (pc' := 41) rfl (hb hby d5_32) rfl ((if0 _ _).trans (teq hx4).1) (by decide) (by decide) ?_
    show Steps _ _ _ (T47.setTop (mkF m 41 #[vR a1, vR a2, vI 1, vI 5, vI 4, vI 1] [])) _
    refine XS.iload X47.here hx rfl (hb hby d5_41) rfl ?_
    show Steps _ _ _ (T47.setTop (mkF m 43 #[vR a1, vR a2, vI 1, vI 5, vI 4, vI 1] [iI 4])) _
    refine XS.istore X47.here hx rfl (hb hby d5_43) rfl (l' := #[vR a1, vR a2, vI 1, vI 5, vI 4, vI 4]) rfl ?_
    show Steps _ _ _ (T47.setTop (mkF m 45 #[vR a1, vR a2, vI 1, vI 5, vI 4, vI 4] [])) _
    refine XS.iload X47.here hx rfl (hb hby d5_45) rfl ?_
    show Steps _ _ _ (T47.setTop (mkF m 47 #[vR a1, vR a2, vI 1, vI 5, vI 4, vI 4] [iI 4])) _
    refine XS.iloadN X47.here hx rfl (hb hby d5_47) rfl ?_
    show Steps _ _ _ (T47.setTop (mkF m 48 #[vR a1, vR a2, vI 1, vI 5, vI 4, vI 4] [iI 5, iI 4])) _
    refine XS.icmpNo X47.here hx rfl (hb hby d5_48) rfl (tlt (by decide : (4 : Int32) < (5 : Int32))).2.1 ?_
    show Steps _ _ _ (T47.setTop (mkF m 51 #[vR a1, vR a2, vI 1, vI 5, vI 4, vI 4] [])) _
    refine XS.aloadN X47.here hx rfl (hb hby d5_51) rfl rfl ?_
    show Steps _ _ _ (T47.setTop (mkF m 52 #[vR a1, vR a2, vI 1, vI 5, vI 4, vI 4] [iR a2])) _
    refine XS.iload X47.here hx rfl (hb hby d5_52) rfl ?_
    show Steps _ _ _ (T47.setTop (mkF m 54 #[vR a1, vR a2, vI 1, vI 5, vI 4, vI 4] [iI 4, iR a2])) _
    refine X47.baloadBytes hx (j := (4 : Int32)) (v := (.int x4)) (by rw [e47]; exact Ar41.1) (State.isArrayOf_alike hZ.alike Ar41.2.1) Ar41.2.2 hin48 hat49 (g := (mkF m 54 #[vR a1, vR a2, vI 1, vI 5, vI 4, vI 4] [iI 4, iR a2])) rfl rfl (hb hby d5_54) _ ?_
    show Steps _ _ _ (T47.setTop (mkF m 55 #[vR a1, vR a2, vI 1, vI 5, vI 4, vI 4] [iI x4])) _
    refine st50.trans ?_
    show Steps _ _ _ (T50.setTop (mkF m 58 #[vR a1, vR a2, vI 1, vI 5, vI 4, vI 4] [iI (own_sep x4)])) _
    refine XS.ifNo X50.here hx rfl (hb hby d5_58) rfl ((if0 _ _).trans (teq hx4).2) ?_
    show Steps _ _ _ (T50.setTop (mkF m 61 #[vR a1, vR a2, vI 1, vI 5, vI 4, vI 4] [])) _
    refine XS.iinc X50.here hx rfl (hb hby d5_61) rfl (l' := #[vR a1, vR a2, vI 1, vI 5, vI ((4 : Int32) + (1 : Int32)), vI 4]) rfl ?_
    rw [(by decide : ((4 : Int32) + (1 : Int32)) = (5 : Int32))]
    show Steps _ _ _ (T50.setTop (mkF m 64 #[vR a1, vR a2, vI 1, vI 5, vI 5, vI 4] [])) _
    refine XS.goto X50.here hx rfl (pc0 := 64) (pc' := 45) rfl (hb hby d5_64) (by decide) (by decide) ?_
    show Steps _ _ _ (T50.setTop (mkF m 45 #[vR a1, vR a2, vI 1, vI 5, vI 5, vI 4] [])) _
    refine XS.iload X50.here hx rfl (hb hby d5_45) rfl ?_
    show Steps _ _ _ (T50.setTop (mkF m 47 #[vR a1, vR a2, vI 1, vI 5, vI 5, vI 4] [iI 5])) _
    refine XS.iloadN X50.here hx rfl (hb hby d5_47) rfl ?_
    show Steps _ _ _ (T50.setTop (mkF m 48 #[vR a1, vR a2, vI 1, vI 5, vI 5, vI 4] [iI 5, iI 5])) _
    refine XS.icmpYes X50.here hx rfl (pc0 := 48) (pc' := 67) rfl (hb hby d5_48) rfl (flt (by decide : ¬ ((5 : Int32) < (5 : Int32)))).2.1 (by decide) (by decide) ?_
    show Steps _ _ _ (T50.setTop (mkF m 67 #[vR a1, vR a2, vI 1, vI 5, vI 5, vI 4] [])) _
    refine XS.iload X50.here hx rfl (hb hby d5_67) rfl ?_
    show Steps _ _ _ (T50.setTop (mkF m 69 #[vR a1, vR a2, vI 1, vI 5, vI 5, vI 4] [iI 5])) _
    refine XS.iload X50.here hx rfl (hb hby d5_69) rfl ?_
    show Steps _ _ _ (T50.setTop (mkF m 71 #[vR a1, vR a2, vI 1, vI 5, vI 5, vI 4] [iI 4, iI 5])) _
    refine XS.icmpNo X50.here hx rfl (hb hby d5_71) rfl (tlt (by decide : (4 : Int32) < (5 : Int32))).2.2.2 ?_
    show Steps _ _ _ (T50.setTop (mkF m 74 #[vR a1, vR a2, vI 1, vI 5, vI 5, vI 4] [])) _
    refine XS.aloadN X50.here hx rfl (hb hby d5_74) rfl rfl ?_
    show Steps _ _ _ (T50.setTop (mkF m 75 #[vR a1, vR a2, vI 1, vI 5, vI 5, vI 4] [iR a1])) _
    refine st51 _ ?_
    show Steps _ _ _ (T51.setTop (mkF m 78 #[vR a1, vR a2, vI 1, vI 5, vI 5, vI 4] [iI 1])) _
    refine XS.aloadN X51.here hx rfl (hb hby d5_78) rfl rfl ?_
    show Steps _ _ _ (T51.setTop (mkF m 79 #[vR a1, vR a2, vI 1, vI 5, vI 5, vI 4] [iR a1, iI 1])) _
    refine st53 _ ?_
    show Steps _ _ _ (T53.setTop (mkF m 82 #[vR a1, vR a2, vI 1, vI 5, vI 5, vI 4] [iR s1, iI 1])) _
    refine X53.arraylength hx (by rw [e53]; exact Ar55.1) (State.isArrayOf_alike hZ.alike Ar55.2.1) (g := (mkF m 82 #[vR a1, vR a2, vI 1, vI 5, vI 5, vI 4] [iR s1, iI 1])) rfl rfl (hb hby d5_82) _ ?_
    rw [len_of S55 M55]
    show Steps _ _ _ (T53.setTop (mkF m 83 #[vR a1, vR a2, vI 1, vI 5, vI 5, vI 4] [iI 16, iI 1])) _
    refine XS.icmpYes X53.here hx rfl (pc0 := 83) (pc' := 120) rfl (hb hby d5_83) rfl (feq (by decide : ¬ ((1 : Int32) = (16 : Int32)))).2 (by decide) (by decide) ?_
    show Steps _ _ _ (T53.setTop (mkF m 120 #[vR a1, vR a2, vI 1, vI 5, vI 5, vI 4] [])) _
    refine XS.aloadN X53.here hx rfl (hb hby d5_120) rfl rfl ?_
    show Steps _ _ _ (T53.setTop (mkF m 121 #[vR a1, vR a2, vI 1, vI 5, vI 5, vI 4] [iR a1])) _
    refine st56 _ ?_
    show Steps _ _ _ (T56.setTop (mkF m 124 #[vR a1, vR a2, vI 1, vI 5, vI 5, vI 4] [iR s1])) _
    refine XS.aloadN X56.here hx rfl (hb hby d5_124) rfl rfl ?_
    show Steps _ _ _ (T56.setTop (mkF m 125 #[vR a1, vR a2, vI 1, vI 5, vI 5, vI 4] [iR a1, iR s1])) _
    refine st57 _ ?_
    show Steps _ _ _ (T57.setTop (mkF m 128 #[vR a1, vR a2, vI 1, vI 5, vI 5, vI 4] [iI 1, iR s1])) _
    refine XS.iload X57.here hx rfl (hb hby d5_128) rfl ?_
    show Steps _ _ _ (T57.setTop (mkF m 130 #[vR a1, vR a2, vI 1, vI 5, vI 5, vI 4] [iI 4, iI 1, iR s1])) _
    refine st59 _ ?_
    show Steps _ _ _ (T59.setTop (mkF m 131 #[vR a1, vR a2, vI 1, vI 5, vI 5, vI 4] [])) _
    refine XS.aloadN X59.here hx rfl (hb hby d5_131) rfl rfl ?_
    show Steps _ _ _ (T59.setTop (mkF m 132 #[vR a1, vR a2, vI 1, vI 5, vI 5, vI 4] [iR a1])) _
    refine st61 _ ?_
    show Steps _ _ _ (T61.setTop (mkF m 135 #[vR a1, vR a2, vI 1, vI 5, vI 5, vI 4] [iR s2])) _
    refine XS.aloadN X61.here hx rfl (hb hby d5_135) rfl rfl ?_
    show Steps _ _ _ (T61.setTop (mkF m 136 #[vR a1, vR a2, vI 1, vI 5, vI 5, vI 4] [iR a1, iR s2])) _
    refine st63 _ ?_
    show Steps _ _ _ (T63.setTop (mkF m 139 #[vR a1, vR a2, vI 1, vI 5, vI 5, vI 4] [iI 1, iR s2])) _
    refine XS.iload X63.here hx rfl (hb hby d5_139) rfl ?_
    show Steps _ _ _ (T63.setTop (mkF m 141 #[vR a1, vR a2, vI 1, vI 5, vI 5, vI 4] [iI 5, iI 1, iR s2])) _
    refine st67 _ ?_
    show Steps _ _ _ (T67.setTop (mkF m 142 #[vR a1, vR a2, vI 1, vI 5, vI 5, vI 4] [])) _
    refine XS.aloadN X67.here hx rfl (hb hby d5_142) rfl rfl ?_
    show Steps _ _ _ (T67.setTop (mkF m 143 #[vR a1, vR a2, vI 1, vI 5, vI 5, vI 4] [iR a1])) _
    refine XS.dup X67.here hx rfl (hb hby d5_143) rfl rfl ?_
    show Steps _ _ _ (T67.setTop (mkF m 144 #[vR a1, vR a2, vI 1, vI 5, vI 5, vI 4] [iR a1, iR a1])) _
    refine st69 _ ?_
    show Steps _ _ _ (T69.setTop (mkF m 147 #[vR a1, vR a2, vI 1, vI 5, vI 5, vI 4] [iI 1, iR a1])) _
    refine XS.iconst X69.here hx rfl (hb hby d5_147) ?_
    show Steps _ _ _ (T69.setTop (mkF m 148 #[vR a1, vR a2, vI 1, vI 5, vI 5, vI 4] [iI 1, iI 1, iR a1])) _
    refine XS.iadd X69.here hx rfl (hb hby d5_148) rfl ?_
    rw [(by decide : ((1 : Int32) + (1 : Int32)) = (2 : Int32))]
    show Steps _ _ _ (T69.setTop (mkF m 149 #[vR a1, vR a2, vI 1, vI 5, vI 5, vI 4] [iI 2, iR a1])) _
    refine st71 _ ?_
    show Steps _ _ _ (T71.setTop (mkF m 152 #[vR a1, vR a2, vI 1, vI 5, vI 5, vI 4] [])) _
    refine XS.goto X71.here hx rfl (pc0 := 152) (pc' := 13) rfl (hb hby d5_152) (by decide) (by decide) ?_
    show Steps _ _ _ (T71.setTop (mkF m 13 #[vR a1, vR a2, vI 1, vI 5, vI 5, vI 4] [])) _
    refine XS.iload X71.here hx rfl (hb hby d5_13) rfl ?_
    show Steps _ _ _ (T71.setTop (mkF m 15 #[vR a1, vR a2, vI 1, vI 5, vI 5, vI 4] [iI 5])) _
    refine XS.iloadN X71.here hx rfl (hb hby d5_15) rfl ?_
    show Steps _ _ _ (T71.setTop (mkF m 16 #[vR a1, vR a2, vI 1, vI 5, vI 5, vI 4] [iI 5, iI 5])) _
    refine XS.icmpYes X71.here hx rfl (pc0 := 16) (pc' := 155) rfl (hb hby d5_16) rfl (flt (by decide : ¬ ((5 : Int32) < (5 : Int32)))).2.1 (by decide) (by decide) ?_
    show Steps _ _ _ (T71.setTop (mkF m 155 #[vR a1, vR a2, vI 1, vI 5, vI 5, vI 4] [])) _
    exact X71.returnOut hx Bd.returns (hb hby d5_155) hr
  · show Q5_1_5 Z a1 a2 s1 s2 k1 k2 kl x0 x1 x2 x3 x4 x5 x6 h0 n0 _ T71.heap _
    rw [e71]
    exact ⟨rfl, N71, K71, fk72, fk73, fk74, fk75, fk76, fk77⟩
theorem ef_5_1_6 (m : MethodId) (x0 : Addr) (x1 : Addr) : entryFrame m #[(.ref x0), (.ref x1), (.int (1 : Int32)), (.int (6 : Int32))] 6 = mkF m 0 #[.val (.ref x0), .val (.ref x1), .val (.int (1 : Int32)), .val (.int (6 : Int32)), .unset, .unset] [] := by first | (simp [entryFrame, mkF, argsToLocals, Value.category]; done) | rfl
def Q5_1_6 (Z : State) (a1 : Addr) (a2 : Addr) (s1 s2 : Addr) (k1 k2 kl : ClassId) (x0 : Int32) (x1 : Int32) (x2 : Int32) (x3 : Int32) (x4 : Int32) (x5 : Int32) (x6 : Int32) (h0 : Heap) (n0 : Nat) (v : Option Value) (h : Heap) (L : List Loc) : Prop := v = none ∧ Fr n0 L ∧ Keep h0 h [a1, s1, s2] ∧ Exa Z h a1 "com/example/tidemine/tidemine/TextFormat$Tokens" ∧ Fld Z h a1 "com/example/tidemine/tidemine/TextFormat$Tokens" "line" "[B" (.ref a2) ∧ Fld Z h a1 "com/example/tidemine/tidemine/TextFormat$Tokens" "starts" "[I" (.ref s1) ∧ Fld Z h a1 "com/example/tidemine/tidemine/TextFormat$Tokens" "ends" "[I" (.ref s2) ∧ Arv Z h s1 k1 .int (16 : Int32) [(.int (1 : Int32)), (.int (4 : Int32)), (.int (0 : Int32)), (.int (0 : Int32)), (.int (0 : Int32)), (.int (0 : Int32)), (.int (0 : Int32)), (.int (0 : Int32)), (.int (0 : Int32)), (.int (0 : Int32)), (.int (0 : Int32)), (.int (0 : Int32)), (.int (0 : Int32)), (.int (0 : Int32)), (.int (0 : Int32)), (.int (0 : Int32))] (.int (0 : Int32)) ∧ Arv Z h s2 k2 .int (16 : Int32) [(.int (3 : Int32)), (.int (6 : Int32)), (.int (0 : Int32)), (.int (0 : Int32)), (.int (0 : Int32)), (.int (0 : Int32)), (.int (0 : Int32)), (.int (0 : Int32)), (.int (0 : Int32)), (.int (0 : Int32)), (.int (0 : Int32)), (.int (0 : Int32)), (.int (0 : Int32)), (.int (0 : Int32)), (.int (0 : Int32)), (.int (0 : Int32))] (.int (0 : Int32))
set_option maxRecDepth 65536 in
set_option maxHeartbeats 40000000 in
theorem rm5_1_6 (l : Launch) (Z : State) (a0 : Array Value) (hw : ∀ d ∈ tables_1, d.before a0 Z = true) (ws : List Jvm.Cond) (a1 : Addr) (a2 : Addr) (s1 s2 : Addr) (k1 k2 kl : ClassId) (x0 : Int32) (x1 : Int32) (x2 : Int32) (x3 : Int32) (x4 : Int32) (x5 : Int32) (x6 : Int32) (h0 : Heap) (n0 : Nat) (Z0 : n0 ≤ h0.size) (E_a1 : Exa Z h0 a1 "com/example/tidemine/tidemine/TextFormat$Tokens") (g_a1 : n0 ≤ a1) (g_s1 : n0 ≤ s1) (g_s2 : n0 ≤ s2) (F_line : Fld Z h0 a1 "com/example/tidemine/tidemine/TextFormat$Tokens" "line" "[B" .null) (F_starts : Fld Z h0 a1 "com/example/tidemine/tidemine/TextFormat$Tokens" "starts" "[I" (.ref s1)) (F_ends : Fld Z h0 a1 "com/example/tidemine/tidemine/TextFormat$Tokens" "ends" "[I" (.ref s2)) (F_count : Fld Z h0 a1 "com/example/tidemine/tidemine/TextFormat$Tokens" "count" "I" (.int (0 : Int32))) (V_1 : Arv Z h0 s1 k1 .int (16 : Int32) [(.int (0 : Int32)), (.int (0 : Int32)), (.int (0 : Int32)), (.int (0 : Int32)), (.int (0 : Int32)), (.int (0 : Int32)), (.int (0 : Int32)), (.int (0 : Int32)), (.int (0 : Int32)), (.int (0 : Int32)), (.int (0 : Int32)), (.int (0 : Int32)), (.int (0 : Int32)), (.int (0 : Int32)), (.int (0 : Int32)), (.int (0 : Int32))] (.int (0 : Int32))) (V_2 : Arv Z h0 s2 k2 .int (16 : Int32) [(.int (0 : Int32)), (.int (0 : Int32)), (.int (0 : Int32)), (.int (0 : Int32)), (.int (0 : Int32)), (.int (0 : Int32)), (.int (0 : Int32)), (.int (0 : Int32)), (.int (0 : Int32)), (.int (0 : Int32)), (.int (0 : Int32)), (.int (0 : Int32)), (.int (0 : Int32)), (.int (0 : Int32)), (.int (0 : Int32)), (.int (0 : Int32))] (.int (0 : Int32))) (V_l : Arv Z h0 a2 kl .byte (7 : Int32) [(.int x0), (.int x1), (.int x2), (.int x3), (.int x4), (.int x5), (.int x6)] (.int (0 : Int32))) (ne_a1_a2 : a1 ≠ a2) (ne_a1_s1 : a1 ≠ s1) (ne_a1_s2 : a1 ≠ s2) (ne_a2_s1 : a2 ≠ s1) (ne_a2_s2 : a2 ≠ s2) (ne_s1_s2 : s1 ≠ s2) (hx0 : (own_sep x0) = (0 : Int32)) (hx1 : (own_sep x1) = (0 : Int32)) (hx2 : (own_sep x2) = (0 : Int32)) (hx3 : ¬ (own_sep x3) = (0 : Int32)) (hx4 : (own_sep x4) = (0 : Int32)) (hx5 : (own_sep x5) = (0 : Int32)) (hx6 : (own_sep x6) = (0 : Int32)) :
    MetFree l (⟨"com/example/tidemine/tidemine/TextFormat$Tokens", "split", "([BII)V"⟩ : MethodName) (head1 (Jvm.Cond.code (⟨"com/example/tidemine/tidemine/TextFormat$Tokens", "split", "([BII)V"⟩ : MethodName) prog_41_method_2_code 6 none :: ws) ({ frames := 1, cells := 0, slots := 0, locals := 12 } : Room)) (fun a U => a = #[(.ref a1), (.ref a2), (.int (1 : Int32)), (.int (6 : Int32))] ∧ Z.Warmed39 U.vm ∧ U.heap = h0) (fun _ _ _ _ _ => True) (fun _ U o U' => ∃ v L, o = .returned v ∧ Q5_1_6 Z a1 a2 s1 s2 k1 k2 kl x0 x1 x2 x3 x4 x5 x6 h0 n0 v U'.heap L ∧ FrameEnd U o U' L ({ frames := 1, cells := 0, slots := 0, locals := 12 } : Room).cells ({ frames := 1, cells := 0, slots := 0, locals := 12 } : Room).slots) := by
  refine MetFree.of_bodySF (plainFor_of_name pn_2) hisR ?_
  intro p e s m args below meth c s₁ Bd hml0 hP hK
  obtain ⟨rfl, hZ, hh⟩ := hP
  have hx := Bd.exec
  have hby := Bd.bytes
  have hml : c.maxLocals = 6 := hml0
  have hown : s.vm.findClass "com/example/tidemine/tidemine/TextFormat$Tokens" = some m.cls := findClass_of_methodNamed Bd.named
  have hnm := (name_of_methodNamed Bd.named Bd.method).1
  have X0 : Stand p l e ({ frames := 1, cells := 0, slots := 0, locals := 12 } : Room) s m #[(.ref a1), (.ref a2), (.int (1 : Int32)), (.int (6 : Int32))] below meth c s₁ [] 0 0 := Stand.of_body Bd
  have e0 : s₁.heap = h0 := by rw [← hh, Bd.state]; rfl
  have N0 := Fr.nil n0
  have K0 := Keep.refl h0 [a1, s1, s2]
  have pre0 : ∀ t, Steps p.tables e below (s₁.setTop (mkF m 0 #[.val (.ref a1), .val (.ref a2), .val (.int (1 : Int32)), .val (.int (6 : Int32)), .unset, .unset] [])) t → Steps p.tables e below (s₁.setTop (entryFrame m #[(.ref a1), (.ref a2), (.int (1 : Int32)), (.int (6 : Int32))] 6)) t := fun t k => castTop (ef_5_1_6 m a1 a2) k
  obtain ⟨T1, h1, X1, e1, W1, st1⟩ := putF X0 hx hZ hown (host := "") (Or.inl (hw _ (List.mem_of_getElem? (i := 28) rfl))) Via.refl e0 F_line E_a1 (Or.inl (hw _ (List.mem_of_getElem? (i := 29) rfl))) (hw _ (List.mem_of_getElem? (i := 10) rfl)) (ty := (.array .byte)) (by decide) rfl rfl (g := (mkF m 2 #[vR a1, vR a2, vI 1, vI 6, .unset, .unset] [iR a2, iR a1])) rfl rfl (hb hby d5_2)
  have Fw1 := F_line.same W1
  have K1 : Keep h0 h1 [a1, s1, s2] := K0.wr W1 (Or.inl (List.mem_of_getElem? (i := 0) rfl))
  have N1 := Fr.snoc X1 N0 g_a1
  have fk2 := (F_count.other W1 (Or.inr (slot_ne (Or.inl (hw _ (List.mem_of_getElem? (i := 31) rfl))) (Or.inl (hw _ (List.mem_of_getElem? (i := 29) rfl))) (by decide) (t := .int) (t' := (.array .byte)) (by decide) (by decide))))
  have fk3 := (E_a1.wr W1)
  obtain ⟨T4, h4, X4, e4, W4, st4⟩ := putF X1 hx hZ hown (host := "") (Or.inl (hw _ (List.mem_of_getElem? (i := 30) rfl))) Via.refl e1 fk2 fk3 (Or.inl (hw _ (List.mem_of_getElem? (i := 31) rfl))) (hw _ (List.mem_of_getElem? (i := 10) rfl)) (ty := .int) (by decide) rfl rfl (g := (mkF m 7 #[vR a1, vR a2, vI 1, vI 6, .unset, .unset] [iI 0, iR a1])) rfl rfl (hb hby d5_7)
  have Fw4 := fk2.same W4
  have K4 : Keep h0 h4 [a1, s1, s2] := K1.wr W4 (Or.inl (List.mem_of_getElem? (i := 0) rfl))
  have N4 := Fr.snoc X4 N1 g_a1
  have fk5 := ((V_l.other W1 (Ne.symm ne_a1_a2)).other W4 (Ne.symm ne_a1_a2))
  obtain ⟨cl6, Ar6, q6, S6, M6, H6, G6⟩ := id fk5
  have hin7 : ¬ ((1 : Int32) < 0 ∨ cl6.slots.size ≤ ((1 : Int32)).toNatClampNeg) := inb_of S6 ⟨by decide, by decide⟩
  have hat8 : cl6.slots[((1 : Int32)).toNatClampNeg]? = some (.int x1) := Has.at H6 hin7 rfl
  obtain ⟨_, _, ⟨T9, L9, k9, n9⟩, -, X9, ⟨Lc9, hQ9, l9, y9, z9⟩, st9⟩ := callSN X4 hx (y := (⟨"com/example/tidemine/tidemine/TextFormat", "isSeparator", "(B)Z"⟩ : MethodName)) hown (Cond.methodLinkNest_wide hZ (hw _ (List.mem_of_getElem? (i := 32) rfl))) (mvT hZ (hw _ (List.mem_of_getElem? (i := 33) rfl))) (mvT hZ (hw _ (List.mem_of_getElem? (i := 34) rfl))) (mvT hZ (hw _ (List.mem_of_getElem? (i := 35) rfl))) (by decide) (backOf (W := 0) (rm6 l Z a0 hw [] x1 h4 ) hZ (hw _ (List.mem_of_getElem? (i := 35) rfl)) (hw _ (List.mem_of_getElem? (i := 34) rfl)) (by decide) (by decide)) (g := (mkF m 29 #[vR a1, vR a2, vI 1, vI 6, vI 1, .unset] [iI x1])) rfl (by rw [hml]; rfl) (argsL := [(.int x1)]) (rest := []) (lenOf pd_0 rfl) rfl (by show 2 * 0 + _ ≤ _; exact Nat.le_of_eq rfl) (hb hby d5_29) (fun _ _ => ⟨rfl, e4, (by decide : 0 + 0 ≤ _), (by decide : 0 + 0 ≤ _)⟩)
  dsimp only [Pt.U, Pt.locs, Pt.cells, Pt.slots] at X9 l9 y9 z9 st9 hQ9
  subst l9 y9 z9
  obtain ⟨rfl, rfl, e9⟩ := hQ9
  try rw [List.append_nil] at X9
  have hin10 : ¬ ((1 : Int32) < 0 ∨ cl6.slots.size ≤ ((1 : Int32)).toNatClampNeg) := inb_of S6 ⟨by decide, by decide⟩
  have hat11 : cl6.slots[((1 : Int32)).toNatClampNeg]? = some (.int x1) := Has.at H6 hin10 rfl
  obtain ⟨_, _, ⟨T12, L12, k12, n12⟩, -, X12, ⟨Lc12, hQ12, l12, y12, z12⟩, st12⟩ := callSN X9 hx (y := (⟨"com/example/tidemine/tidemine/TextFormat", "isSeparator", "(B)Z"⟩ : MethodName)) hown (Cond.methodLinkNest_wide hZ (hw _ (List.mem_of_getElem? (i := 32) rfl))) (mvT hZ (hw _ (List.mem_of_getElem? (i := 33) rfl))) (mvT hZ (hw _ (List.mem_of_getElem? (i := 34) rfl))) (mvT hZ (hw _ (List.mem_of_getElem? (i := 35) rfl))) (by decide) (backOf (W := 0) (rm6 l Z a0 hw [] x1 h4 ) hZ (hw _ (List.mem_of_getElem? (i := 35) rfl)) (hw _ (List.mem_of_getElem? (i := 34) rfl)) (by decide) (by decide)) (g := (mkF m 55 #[vR a1, vR a2, vI 1, vI 6, vI 1, vI 1] [iI x1])) rfl (by rw [hml]; rfl) (argsL := [(.int x1)]) (rest := []) (lenOf pd_0 rfl) rfl (by show 2 * 0 + _ ≤ _; exact Nat.le_of_eq rfl) (hb hby d5_55) (fun _ _ => ⟨rfl, e9, (by decide : 0 + 0 ≤ _), (by decide : 0 + 0 ≤ _)⟩)
  dsimp only [Pt.U, Pt.locs, Pt.cells, Pt.slots] at X12 l12 y12 z12 st12 hQ12
  subst l12 y12 z12
  obtain ⟨rfl, rfl, e12⟩ := hQ12
  try rw [List.append_nil] at X12
  have hin13 : ¬ ((2 : Int32) < 0 ∨ cl6.slots.size ≤ ((2 : Int32)).toNatClampNeg) := inb_of S6 ⟨by decide, by decide⟩
  have hat14 : cl6.slots[((2 : Int32)).toNatClampNeg]? = some (.int x2) := Has.at H6 hin13 rfl
  obtain ⟨_, _, ⟨T15, L15, k15, n15⟩, -, X15, ⟨Lc15, hQ15, l15, y15, z15⟩, st15⟩ := callSN X12 hx (y := (⟨"com/example/tidemine/tidemine/TextFormat", "isSeparator", "(B)Z"⟩ : MethodName)) hown (Cond.methodLinkNest_wide hZ (hw _ (List.mem_of_getElem? (i := 32) rfl))) (mvT hZ (hw _ (List.mem_of_getElem? (i := 33) rfl))) (mvT hZ (hw _ (List.mem_of_getElem? (i := 34) rfl))) (mvT hZ (hw _ (List.mem_of_getElem? (i := 35) rfl))) (by decide) (backOf (W := 0) (rm6 l Z a0 hw [] x2 h4 ) hZ (hw _ (List.mem_of_getElem? (i := 35) rfl)) (hw _ (List.mem_of_getElem? (i := 34) rfl)) (by decide) (by decide)) (g := (mkF m 55 #[vR a1, vR a2, vI 1, vI 6, vI 2, vI 1] [iI x2])) rfl (by rw [hml]; rfl) (argsL := [(.int x2)]) (rest := []) (lenOf pd_0 rfl) rfl (by show 2 * 0 + _ ≤ _; exact Nat.le_of_eq rfl) (hb hby d5_55) (fun _ _ => ⟨rfl, e12, (by decide : 0 + 0 ≤ _), (by decide : 0 + 0 ≤ _)⟩)
  dsimp only [Pt.U, Pt.locs, Pt.cells, Pt.slots] at X15 l15 y15 z15 st15 hQ15
  subst l15 y15 z15
  obtain ⟨rfl, rfl, e15⟩ := hQ15
  try rw [List.append_nil] at X15
  have hin16 : ¬ ((3 : Int32) < 0 ∨ cl6.slots.size ≤ ((3 : Int32)).toNatClampNeg) := inb_of S6 ⟨by decide, by decide⟩
  have hat17 : cl6.slots[((3 : Int32)).toNatClampNeg]? = some (.int x3) := Has.at H6 hin16 rfl
  obtain ⟨_, _, ⟨T18, L18, k18, n18⟩, -, X18, ⟨Lc18, hQ18, l18, y18, z18⟩, st18⟩ := callSN X15 hx (y := (⟨"com/example/tidemine/tidemine/TextFormat", "isSeparator", "(B)Z"⟩ : MethodName)) hown (Cond.methodLinkNest_wide hZ (hw _ (List.mem_of_getElem? (i := 32) rfl))) (mvT hZ (hw _ (List.mem_of_getElem? (i := 33) rfl))) (mvT hZ (hw _ (List.mem_of_getElem? (i := 34) rfl))) (mvT hZ (hw _ (List.mem_of_getElem? (i := 35) rfl))) (by decide) (backOf (W := 0) (rm6 l Z a0 hw [] x3 h4 ) hZ (hw _ (List.mem_of_getElem? (i := 35) rfl)) (hw _ (List.mem_of_getElem? (i := 34) rfl)) (by decide) (by decide)) (g := (mkF m 55 #[vR a1, vR a2, vI 1, vI 6, vI 3, vI 1] [iI x3])) rfl (by rw [hml]; rfl) (argsL := [(.int x3)]) (rest := []) (lenOf pd_0 rfl) rfl (by show 2 * 0 + _ ≤ _; exact Nat.le_of_eq rfl) (hb hby d5_55) (fun _ _ => ⟨rfl, e15, (by decide : 0 + 0 ≤ _), (by decide : 0 + 0 ≤ _)⟩)
  dsimp only [Pt.U, Pt.locs, Pt.cells, Pt.slots] at X18 l18 y18 z18 st18 hQ18
  subst l18 y18 z18
  obtain ⟨rfl, rfl, e18⟩ := hQ18
  try rw [List.append_nil] at X18
  obtain ⟨T19, X19, e19, st19⟩ := getF X18 hx hZ hown (host := "") (Or.inl (hw _ (List.mem_of_getElem? (i := 30) rfl))) Via.refl e18 Fw4 (g := (mkF m 75 #[vR a1, vR a2, vI 1, vI 6, vI 3, vI 1] [iR a1])) rfl rfl (hb hby d5_75)
  have fk20 := ((F_starts.other W1 (Or.inr (slot_ne (Or.inl (hw _ (List.mem_of_getElem? (i := 20) rfl))) (Or.inl (hw _ (List.mem_of_getElem? (i := 29) rfl))) (by decide) (t := (.array .int)) (t' := (.array .byte)) (by decide) (by decide)))).other W4 (Or.inr (slot_ne (Or.inl (hw _ (List.mem_of_getElem? (i := 20) rfl))) (Or.inl (hw _ (List.mem_of_getElem? (i := 31) rfl))) (by decide) (t := (.array .int)) (t' := .int) (by decide) (by decide))))
  obtain ⟨T21, X21, e21, st21⟩ := getF X19 hx hZ hown (host := "") (Or.inl (hw _ (List.mem_of_getElem? (i := 19) rfl))) Via.refl e19 fk20 (g := (mkF m 79 #[vR a1, vR a2, vI 1, vI 6, vI 3, vI 1] [iR a1, iI 0])) rfl rfl (hb hby d5_79)
  have fk22 := ((V_1.other W1 (Ne.symm ne_a1_s1)).other W4 (Ne.symm ne_a1_s1))
  obtain ⟨cl23, Ar23, q23, S23, M23, H23, G23⟩ := id fk22
  obtain ⟨T24, X24, e24, st24⟩ := getF X21 hx hZ hown (host := "") (Or.inl (hw _ (List.mem_of_getElem? (i := 19) rfl))) Via.refl e21 fk20 (g := (mkF m 121 #[vR a1, vR a2, vI 1, vI 6, vI 3, vI 1] [iR a1])) rfl rfl (hb hby d5_121)
  obtain ⟨T25, X25, e25, st25⟩ := getF X24 hx hZ hown (host := "") (Or.inl (hw _ (List.mem_of_getElem? (i := 30) rfl))) Via.refl e24 Fw4 (g := (mkF m 125 #[vR a1, vR a2, vI 1, vI 6, vI 3, vI 1] [iR a1, iR s1])) rfl rfl (hb hby d5_125)
  have hin26 : ¬ ((0 : Int32) < 0 ∨ cl23.slots.size ≤ ((0 : Int32)).toNatClampNeg) := inb_of S23 ⟨by decide, by decide⟩
  obtain ⟨T27, h27, X27, e27, W27, st27⟩ := stI X25 hx hZ e25 Ar23 (j := (0 : Int32)) hin26 (g := (mkF m 130 #[vR a1, vR a2, vI 1, vI 6, vI 3, vI 1] [iI 1, iI 0, iR s1])) rfl rfl (hb hby d5_130)
  have V27 : Arv Z h27 s1 k1 .int (16 : Int32) [(.int (1 : Int32)), (.int (0 : Int32)), (.int (0 : Int32)), (.int (0 : Int32)), (.int (0 : Int32)), (.int (0 : Int32)), (.int (0 : Int32)), (.int (0 : Int32)), (.int (0 : Int32)), (.int (0 : Int32)), (.int (0 : Int32)), (.int (0 : Int32)), (.int (0 : Int32)), (.int (0 : Int32)), (.int (0 : Int32)), (.int (0 : Int32))] (.int (0 : Int32)) := Arv.set Ar23 q23 S23 M23 H23 G23 rfl W27 0 rfl (Nat.le_of_ble_eq_true rfl)
  have K27 : Keep h0 h27 [a1, s1, s2] := K4.wr W27 (Or.inl (List.mem_of_getElem? (i := 1) rfl))
  have N27 := Fr.snoc X27 N4 g_s1
  have fk28 := (((F_ends.other W1 (Or.inr (slot_ne (Or.inl (hw _ (List.mem_of_getElem? (i := 22) rfl))) (Or.inl (hw _ (List.mem_of_getElem? (i := 29) rfl))) (by decide) (t := (.array .int)) (t' := (.array .byte)) (by decide) (by decide)))).other W4 (Or.inr (slot_ne (Or.inl (hw _ (List.mem_of_getElem? (i := 22) rfl))) (Or.inl (hw _ (List.mem_of_getElem? (i := 31) rfl))) (by decide) (t := (.array .int)) (t' := .int) (by decide) (by decide)))).other W27 (Or.inl ne_a1_s1))
  obtain ⟨T29, X29, e29, st29⟩ := getF X27 hx hZ hown (host := "") (Or.inl (hw _ (List.mem_of_getElem? (i := 21) rfl))) Via.refl e27 fk28 (g := (mkF m 132 #[vR a1, vR a2, vI 1, vI 6, vI 3, vI 1] [iR a1])) rfl rfl (hb hby d5_132)
  have fk30 := (Fw4.other W27 (Or.inl ne_a1_s1))
  obtain ⟨T31, X31, e31, st31⟩ := getF X29 hx hZ hown (host := "") (Or.inl (hw _ (List.mem_of_getElem? (i := 30) rfl))) Via.refl e29 fk30 (g := (mkF m 136 #[vR a1, vR a2, vI 1, vI 6, vI 3, vI 1] [iR a1, iR s2])) rfl rfl (hb hby d5_136)
  have fk32 := (((V_2.other W1 (Ne.symm ne_a1_s2)).other W4 (Ne.symm ne_a1_s2)).other W27 (Ne.symm ne_s1_s2))
  obtain ⟨cl33, Ar33, q33, S33, M33, H33, G33⟩ := id fk32
  have hin34 : ¬ ((0 : Int32) < 0 ∨ cl33.slots.size ≤ ((0 : Int32)).toNatClampNeg) := inb_of S33 ⟨by decide, by decide⟩
  obtain ⟨T35, h35, X35, e35, W35, st35⟩ := stI X31 hx hZ e31 Ar33 (j := (0 : Int32)) hin34 (g := (mkF m 141 #[vR a1, vR a2, vI 1, vI 6, vI 3, vI 1] [iI 3, iI 0, iR s2])) rfl rfl (hb hby d5_141)
  have V35 : Arv Z h35 s2 k2 .int (16 : Int32) [(.int (3 : Int32)), (.int (0 : Int32)), (.int (0 : Int32)), (.int (0 : Int32)), (.int (0 : Int32)), (.int (0 : Int32)), (.int (0 : Int32)), (.int (0 : Int32)), (.int (0 : Int32)), (.int (0 : Int32)), (.int (0 : Int32)), (.int (0 : Int32)), (.int (0 : Int32)), (.int (0 : Int32)), (.int (0 : Int32)), (.int (0 : Int32))] (.int (0 : Int32)) := Arv.set Ar33 q33 S33 M33 H33 G33 rfl W35 0 rfl (Nat.le_of_ble_eq_true rfl)
  have K35 : Keep h0 h35 [a1, s1, s2] := K27.wr W35 (Or.inl (List.mem_of_getElem? (i := 2) rfl))
  have N35 := Fr.snoc X35 N27 g_s2
  have fk36 := (fk30.other W35 (Or.inl ne_a1_s2))
  obtain ⟨T37, X37, e37, st37⟩ := getF X35 hx hZ hown (host := "") (Or.inl (hw _ (List.mem_of_getElem? (i := 30) rfl))) Via.refl e35 fk36 (g := (mkF m 144 #[vR a1, vR a2, vI 1, vI 6, vI 3, vI 1] [iR a1, iR a1])) rfl rfl (hb hby d5_144)
  have fk38 := (((fk3.wr W4).wr W27).wr W35)
  obtain ⟨T39, h39, X39, e39, W39, st39⟩ := putF X37 hx hZ hown (host := "") (Or.inl (hw _ (List.mem_of_getElem? (i := 30) rfl))) Via.refl e37 fk36 fk38 (Or.inl (hw _ (List.mem_of_getElem? (i := 31) rfl))) (hw _ (List.mem_of_getElem? (i := 10) rfl)) (ty := .int) (by decide) rfl rfl (g := (mkF m 149 #[vR a1, vR a2, vI 1, vI 6, vI 3, vI 1] [iI 1, iR a1])) rfl rfl (hb hby d5_149)
  have Fw39 := fk36.same W39
  have K39 : Keep h0 h39 [a1, s1, s2] := K35.wr W39 (Or.inl (List.mem_of_getElem? (i := 0) rfl))
  have N39 := Fr.snoc X39 N35 g_a1
  have fk40 := (((fk5.other W27 ne_a2_s1).other W35 ne_a2_s2).other W39 (Ne.symm ne_a1_a2))
  obtain ⟨cl41, Ar41, q41, S41, M41, H41, G41⟩ := id fk40
  have hin42 : ¬ ((3 : Int32) < 0 ∨ cl41.slots.size ≤ ((3 : Int32)).toNatClampNeg) := inb_of S41 ⟨by decide, by decide⟩
  have hat43 : cl41.slots[((3 : Int32)).toNatClampNeg]? = some (.int x3) := Has.at H41 hin42 rfl
  obtain ⟨_, _, ⟨T44, L44, k44, n44⟩, -, X44, ⟨Lc44, hQ44, l44, y44, z44⟩, st44⟩ := callSN X39 hx (y := (⟨"com/example/tidemine/tidemine/TextFormat", "isSeparator", "(B)Z"⟩ : MethodName)) hown (Cond.methodLinkNest_wide hZ (hw _ (List.mem_of_getElem? (i := 32) rfl))) (mvT hZ (hw _ (List.mem_of_getElem? (i := 33) rfl))) (mvT hZ (hw _ (List.mem_of_getElem? (i := 34) rfl))) (mvT hZ (hw _ (List.mem_of_getElem? (i := 35) rfl))) (by decide) (backOf (W := 0) (rm6 l Z a0 hw [] x3 h39 ) hZ (hw _ (List.mem_of_getElem? (i := 35) rfl)) (hw _ (List.mem_of_getElem? (i := 34) rfl)) (by decide) (by decide)) (g := (mkF m 29 #[vR a1, vR a2, vI 1, vI 6, vI 3, vI 1] [iI x3])) rfl (by rw [hml]; rfl) (argsL := [(.int x3)]) (rest := []) (lenOf pd_0 rfl) rfl (by show 2 * 0 + _ ≤ _; exact Nat.le_of_eq rfl) (hb hby d5_29) (fun _ _ => ⟨rfl, e39, (by decide : 0 + 0 ≤ _), (by decide : 0 + 0 ≤ _)⟩)
  dsimp only [Pt.U, Pt.locs, Pt.cells, Pt.slots] at X44 l44 y44 z44 st44 hQ44
  subst l44 y44 z44
  obtain ⟨rfl, rfl, e44⟩ := hQ44
  try rw [List.append_nil] at X44
  have hin45 : ¬ ((4 : Int32) < 0 ∨ cl41.slots.size ≤ ((4 : Int32)).toNatClampNeg) := inb_of S41 ⟨by decide, by decide⟩
  have hat46 : cl41.slots[((4 : Int32)).toNatClampNeg]? = some (.int x4) := Has.at H41 hin45 rfl
  obtain ⟨_, _, ⟨T47, L47, k47, n47⟩, -, X47, ⟨Lc47, hQ47, l47, y47, z47⟩, st47⟩ := callSN X44 hx (y := (⟨"com/example/tidemine/tidemine/TextFormat", "isSeparator", "(B)Z"⟩ : MethodName)) hown (Cond.methodLinkNest_wide hZ (hw _ (List.mem_of_getElem? (i := 32) rfl))) (mvT hZ (hw _ (List.mem_of_getElem? (i := 33) rfl))) (mvT hZ (hw _ (List.mem_of_getElem? (i := 34) rfl))) (mvT hZ (hw _ (List.mem_of_getElem? (i := 35) rfl))) (by decide) (backOf (W := 0) (rm6 l Z a0 hw [] x4 h39 ) hZ (hw _ (List.mem_of_getElem? (i := 35) rfl)) (hw _ (List.mem_of_getElem? (i := 34) rfl)) (by decide) (by decide)) (g := (mkF m 29 #[vR a1, vR a2, vI 1, vI 6, vI 4, vI 1] [iI x4])) rfl (by rw [hml]; rfl) (argsL := [(.int x4)]) (rest := []) (lenOf pd_0 rfl) rfl (by show 2 * 0 + _ ≤ _; exact Nat.le_of_eq rfl) (hb hby d5_29) (fun _ _ => ⟨rfl, e44, (by decide : 0 + 0 ≤ _), (by decide : 0 + 0 ≤ _)⟩)
  dsimp only [Pt.U, Pt.locs, Pt.cells, Pt.slots] at X47 l47 y47 z47 st47 hQ47
  subst l47 y47 z47
  obtain ⟨rfl, rfl, e47⟩ := hQ47
  try rw [List.append_nil] at X47
  have hin48 : ¬ ((4 : Int32) < 0 ∨ cl41.slots.size ≤ ((4 : Int32)).toNatClampNeg) := inb_of S41 ⟨by decide, by decide⟩
  have hat49 : cl41.slots[((4 : Int32)).toNatClampNeg]? = some (.int x4) := Has.at H41 hin48 rfl
  obtain ⟨_, _, ⟨T50, L50, k50, n50⟩, -, X50, ⟨Lc50, hQ50, l50, y50, z50⟩, st50⟩ := callSN X47 hx (y := (⟨"com/example/tidemine/tidemine/TextFormat", "isSeparator", "(B)Z"⟩ : MethodName)) hown (Cond.methodLinkNest_wide hZ (hw _ (List.mem_of_getElem? (i := 32) rfl))) (mvT hZ (hw _ (List.mem_of_getElem? (i := 33) rfl))) (mvT hZ (hw _ (List.mem_of_getElem? (i := 34) rfl))) (mvT hZ (hw _ (List.mem_of_getElem? (i := 35) rfl))) (by decide) (backOf (W := 0) (rm6 l Z a0 hw [] x4 h39 ) hZ (hw _ (List.mem_of_getElem? (i := 35) rfl)) (hw _ (List.mem_of_getElem? (i := 34) rfl)) (by decide) (by decide)) (g := (mkF m 55 #[vR a1, vR a2, vI 1, vI 6, vI 4, vI 4] [iI x4])) rfl (by rw [hml]; rfl) (argsL := [(.int x4)]) (rest := []) (lenOf pd_0 rfl) rfl (by show 2 * 0 + _ ≤ _; exact Nat.le_of_eq rfl) (hb hby d5_55) (fun _ _ => ⟨rfl, e47, (by decide : 0 + 0 ≤ _), (by decide : 0 + 0 ≤ _)⟩)
  dsimp only [Pt.U, Pt.locs, Pt.cells, Pt.slots] at X50 l50 y50 z50 st50 hQ50
  subst l50 y50 z50
  obtain ⟨rfl, rfl, e50⟩ := hQ50
  try rw [List.append_nil] at X50
  have hin51 : ¬ ((5 : Int32) < 0 ∨ cl41.slots.size ≤ ((5 : Int32)).toNatClampNeg) := inb_of S41 ⟨by decide, by decide⟩
  have hat52 : cl41.slots[((5 : Int32)).toNatClampNeg]? = some (.int x5) := Has.at H41 hin51 rfl
  obtain ⟨_, _, ⟨T53, L53, k53, n53⟩, -, X53, ⟨Lc53, hQ53, l53, y53, z53⟩, st53⟩ := callSN X50 hx (y := (⟨"com/example/tidemine/tidemine/TextFormat", "isSeparator", "(B)Z"⟩ : MethodName)) hown (Cond.methodLinkNest_wide hZ (hw _ (List.mem_of_getElem? (i := 32) rfl))) (mvT hZ (hw _ (List.mem_of_getElem? (i := 33) rfl))) (mvT hZ (hw _ (List.mem_of_getElem? (i := 34) rfl))) (mvT hZ (hw _ (List.mem_of_getElem? (i := 35) rfl))) (by decide) (backOf (W := 0) (rm6 l Z a0 hw [] x5 h39 ) hZ (hw _ (List.mem_of_getElem? (i := 35) rfl)) (hw _ (List.mem_of_getElem? (i := 34) rfl)) (by decide) (by decide)) (g := (mkF m 55 #[vR a1, vR a2, vI 1, vI 6, vI 5, vI 4] [iI x5])) rfl (by rw [hml]; rfl) (argsL := [(.int x5)]) (rest := []) (lenOf pd_0 rfl) rfl (by show 2 * 0 + _ ≤ _; exact Nat.le_of_eq rfl) (hb hby d5_55) (fun _ _ => ⟨rfl, e50, (by decide : 0 + 0 ≤ _), (by decide : 0 + 0 ≤ _)⟩)
  dsimp only [Pt.U, Pt.locs, Pt.cells, Pt.slots] at X53 l53 y53 z53 st53 hQ53
  subst l53 y53 z53
  obtain ⟨rfl, rfl, e53⟩ := hQ53
  try rw [List.append_nil] at X53
  obtain ⟨T54, X54, e54, st54⟩ := getF X53 hx hZ hown (host := "") (Or.inl (hw _ (List.mem_of_getElem? (i := 30) rfl))) Via.refl e53 Fw39 (g := (mkF m 75 #[vR a1, vR a2, vI 1, vI 6, vI 6, vI 4] [iR a1])) rfl rfl (hb hby d5_75)
  have fk55 := (((fk20.other W27 (Or.inl ne_a1_s1)).other W35 (Or.inl ne_a1_s2)).other W39 (Or.inr (slot_ne (Or.inl (hw _ (List.mem_of_getElem? (i := 20) rfl))) (Or.inl (hw _ (List.mem_of_getElem? (i := 31) rfl))) (by decide) (t := (.array .int)) (t' := .int) (by decide) (by decide))))
  obtain ⟨T56, X56, e56, st56⟩ := getF X54 hx hZ hown (host := "") (Or.inl (hw _ (List.mem_of_getElem? (i := 19) rfl))) Via.refl e54 fk55 (g := (mkF m 79 #[vR a1, vR a2, vI 1, vI 6, vI 6, vI 4] [iR a1, iI 1])) rfl rfl (hb hby d5_79)
  have fk57 := ((V27.other W35 ne_s1_s2).other W39 (Ne.symm ne_a1_s1))
  obtain ⟨cl58, Ar58, q58, S58, M58, H58, G58⟩ := id fk57
  obtain ⟨T59, X59, e59, st59⟩ := getF X56 hx hZ hown (host := "") (Or.inl (hw _ (List.mem_of_getElem? (i := 19) rfl))) Via.refl e56 fk55 (g := (mkF m 121 #[vR a1, vR a2, vI 1, vI 6, vI 6, vI 4] [iR a1])) rfl rfl (hb hby d5_121)
  obtain ⟨T60, X60, e60, st60⟩ := getF X59 hx hZ hown (host := "") (Or.inl (hw _ (List.mem_of_getElem? (i := 30) rfl))) Via.refl e59 Fw39 (g := (mkF m 125 #[vR a1, vR a2, vI 1, vI 6, vI 6, vI 4] [iR a1, iR s1])) rfl rfl (hb hby d5_125)
  have hin61 : ¬ ((1 : Int32) < 0 ∨ cl58.slots.size ≤ ((1 : Int32)).toNatClampNeg) := inb_of S58 ⟨by decide, by decide⟩
  obtain ⟨T62, h62, X62, e62, W62, st62⟩ := stI X60 hx hZ e60 Ar58 (j := (1 : Int32)) hin61 (g := (mkF m 130 #[vR a1, vR a2, vI 1, vI 6, vI 6, vI 4] [iI 4, iI 1, iR s1])) rfl rfl (hb hby d5_130)
  have V62 : Arv Z h62 s1 k1 .int (16 : Int32) [(.int (1 : Int32)), (.int (4 : Int32)), (.int (0 : Int32)), (.int (0 : Int32)), (.int (0 : Int32)), (.int (0 : Int32)), (.int (0 : Int32)), (.int (0 : Int32)), (.int (0 : Int32)), (.int (0 : Int32)), (.int (0 : Int32)), (.int (0 : Int32)), (.int (0 : Int32)), (.int (0 : Int32)), (.int (0 : Int32)), (.int (0 : Int32))] (.int (0 : Int32)) := Arv.set Ar58 q58 S58 M58 H58 G58 rfl W62 1 rfl (Nat.le_of_ble_eq_true rfl)
  have K62 : Keep h0 h62 [a1, s1, s2] := K39.wr W62 (Or.inl (List.mem_of_getElem? (i := 1) rfl))
  have N62 := Fr.snoc X62 N39 g_s1
  have fk63 := (((fk28.other W35 (Or.inl ne_a1_s2)).other W39 (Or.inr (slot_ne (Or.inl (hw _ (List.mem_of_getElem? (i := 22) rfl))) (Or.inl (hw _ (List.mem_of_getElem? (i := 31) rfl))) (by decide) (t := (.array .int)) (t' := .int) (by decide) (by decide)))).other W62 (Or.inl ne_a1_s1))
  obtain ⟨T64, X64, e64, st64⟩ := getF X62 hx hZ hown (host := "") (Or.inl (hw _ (List.mem_of_getElem? (i := 21) rfl))) Via.refl e62 fk63 (g := (mkF m 132 #[vR a1, vR a2, vI 1, vI 6, vI 6, vI 4] [iR a1])) rfl rfl (hb hby d5_132)
  have fk65 := (Fw39.other W62 (Or.inl ne_a1_s1))
  obtain ⟨T66, X66, e66, st66⟩ := getF X64 hx hZ hown (host := "") (Or.inl (hw _ (List.mem_of_getElem? (i := 30) rfl))) Via.refl e64 fk65 (g := (mkF m 136 #[vR a1, vR a2, vI 1, vI 6, vI 6, vI 4] [iR a1, iR s2])) rfl rfl (hb hby d5_136)
  have fk67 := ((V35.other W39 (Ne.symm ne_a1_s2)).other W62 (Ne.symm ne_s1_s2))
  obtain ⟨cl68, Ar68, q68, S68, M68, H68, G68⟩ := id fk67
  have hin69 : ¬ ((1 : Int32) < 0 ∨ cl68.slots.size ≤ ((1 : Int32)).toNatClampNeg) := inb_of S68 ⟨by decide, by decide⟩
  obtain ⟨T70, h70, X70, e70, W70, st70⟩ := stI X66 hx hZ e66 Ar68 (j := (1 : Int32)) hin69 (g := (mkF m 141 #[vR a1, vR a2, vI 1, vI 6, vI 6, vI 4] [iI 6, iI 1, iR s2])) rfl rfl (hb hby d5_141)
  have V70 : Arv Z h70 s2 k2 .int (16 : Int32) [(.int (3 : Int32)), (.int (6 : Int32)), (.int (0 : Int32)), (.int (0 : Int32)), (.int (0 : Int32)), (.int (0 : Int32)), (.int (0 : Int32)), (.int (0 : Int32)), (.int (0 : Int32)), (.int (0 : Int32)), (.int (0 : Int32)), (.int (0 : Int32)), (.int (0 : Int32)), (.int (0 : Int32)), (.int (0 : Int32)), (.int (0 : Int32))] (.int (0 : Int32)) := Arv.set Ar68 q68 S68 M68 H68 G68 rfl W70 1 rfl (Nat.le_of_ble_eq_true rfl)
  have K70 : Keep h0 h70 [a1, s1, s2] := K62.wr W70 (Or.inl (List.mem_of_getElem? (i := 2) rfl))
  have N70 := Fr.snoc X70 N62 g_s2
  have fk71 := (fk65.other W70 (Or.inl ne_a1_s2))
  obtain ⟨T72, X72, e72, st72⟩ := getF X70 hx hZ hown (host := "") (Or.inl (hw _ (List.mem_of_getElem? (i := 30) rfl))) Via.refl e70 fk71 (g := (mkF m 144 #[vR a1, vR a2, vI 1, vI 6, vI 6, vI 4] [iR a1, iR a1])) rfl rfl (hb hby d5_144)
  have fk73 := (((fk38.wr W39).wr W62).wr W70)
  obtain ⟨T74, h74, X74, e74, W74, st74⟩ := putF X72 hx hZ hown (host := "") (Or.inl (hw _ (List.mem_of_getElem? (i := 30) rfl))) Via.refl e72 fk71 fk73 (Or.inl (hw _ (List.mem_of_getElem? (i := 31) rfl))) (hw _ (List.mem_of_getElem? (i := 10) rfl)) (ty := .int) (by decide) rfl rfl (g := (mkF m 149 #[vR a1, vR a2, vI 1, vI 6, vI 6, vI 4] [iI 2, iR a1])) rfl rfl (hb hby d5_149)
  have Fw74 := fk71.same W74
  have K74 : Keep h0 h74 [a1, s1, s2] := K70.wr W74 (Or.inl (List.mem_of_getElem? (i := 0) rfl))
  have N74 := Fr.snoc X74 N70 g_a1
  obtain ⟨fs, hr, hrun, hended, hW, hsame⟩ := X74.leave (v := none) (fun _ => rfl)
  have fk75 := (fk73.wr W74)
  have fk76 := (((((((Fw1.other W4 (Or.inr (slot_ne (Or.inl (hw _ (List.mem_of_getElem? (i := 29) rfl))) (Or.inl (hw _ (List.mem_of_getElem? (i := 31) rfl))) (by decide) (t := (.array .byte)) (t' := .int) (by decide) (by decide)))).other W27 (Or.inl ne_a1_s1)).other W35 (Or.inl ne_a1_s2)).other W39 (Or.inr (slot_ne (Or.inl (hw _ (List.mem_of_getElem? (i := 29) rfl))) (Or.inl (hw _ (List.mem_of_getElem? (i := 31) rfl))) (by decide) (t := (.array .byte)) (t' := .int) (by decide) (by decide)))).other W62 (Or.inl ne_a1_s1)).other W70 (Or.inl ne_a1_s2)).other W74 (Or.inr (slot_ne (Or.inl (hw _ (List.mem_of_getElem? (i := 29) rfl))) (Or.inl (hw _ (List.mem_of_getElem? (i := 31) rfl))) (by decide) (t := (.array .byte)) (t' := .int) (by decide) (by decide))))
  have fk77 := (((fk55.other W62 (Or.inl ne_a1_s1)).other W70 (Or.inl ne_a1_s2)).other W74 (Or.inr (slot_ne (Or.inl (hw _ (List.mem_of_getElem? (i := 20) rfl))) (Or.inl (hw _ (List.mem_of_getElem? (i := 31) rfl))) (by decide) (t := (.array .int)) (t' := .int) (by decide) (by decide))))
  have fk78 := ((fk63.other W70 (Or.inl ne_a1_s2)).other W74 (Or.inr (slot_ne (Or.inl (hw _ (List.mem_of_getElem? (i := 22) rfl))) (Or.inl (hw _ (List.mem_of_getElem? (i := 31) rfl))) (by decide) (t := (.array .int)) (t' := .int) (by decide) (by decide))))
  have fk79 := ((V62.other W70 ne_s1_s2).other W74 (Ne.symm ne_a1_s1))
  have fk80 := (V70.other W74 (Ne.symm ne_a1_s2))
  refine ⟨_, _, pre0 _ ?_, hrun, hended, _, _, rfl, ?_, ⟨_, rfl⟩, hW, hsame.mono (by decide) (by decide)⟩
  · show Steps _ _ _ (s₁.setTop (mkF m 0 #[vR a1, vR a2, vI 1, vI 6, .unset, .unset] [])) _
    refine XS.aloadN X0.here hx rfl (hb hby d5_0) rfl rfl ?_
    show Steps _ _ _ (s₁.setTop (mkF m 1 #[vR a1, vR a2, vI 1, vI 6, .unset, .unset] [iR a1])) _
    refine XS.aloadN X0.here hx rfl (hb hby d5_1) rfl rfl ?_
    show Steps _ _ _ (s₁.setTop (mkF m 2 #[vR a1, vR a2, vI 1, vI 6, .unset, .unset] [iR a2, iR a1])) _
    refine st1 _ ?_
    show Steps _ _ _ (T1.setTop (mkF m 5 #[vR a1, vR a2, vI 1, vI 6, .unset, .unset] [])) _
    refine XS.aloadN X1.here hx rfl (hb hby d5_5) rfl rfl ?_
    show Steps _ _ _ (T1.setTop (mkF m 6 #[vR a1, vR a2, vI 1, vI 6, .unset, .unset] [iR a1])) _
    refine XS.iconst X1.here hx rfl (hb hby d5_6) ?_
    show Steps _ _ _ (T1.setTop (mkF m 7 #[vR a1, vR a2, vI 1, vI 6, .unset, .unset] [iI 0, iR a1])) _
    refine st4 _ ?_
    show Steps _ _ _ (T4.setTop (mkF m 10 #[vR a1, vR a2, vI 1, vI 6, .unset, .unset] [])) _
    refine XS.iloadN X4.here hx rfl (hb hby d5_10) rfl ?_
    show Steps _ _ _ (T4.setTop (mkF m 11 #[vR a1, vR a2, vI 1, vI 6, .unset, .unset] [iI 1])) _
    refine XS.istore X4.here hx rfl (hb hby d5_11) rfl (l' := #[vR a1, vR a2, vI 1, vI 6, vI 1, .unset]) rfl ?_
    show Steps _ _ _ (T4.setTop (mkF m 13 #[vR a1, vR a2, vI 1, vI 6, vI 1, .unset] [])) _
    refine XS.iload X4.here hx rfl (hb hby d5_13) rfl ?_
    show Steps _ _ _ (T4.setTop (mkF m 15 #[vR a1, vR a2, vI 1, vI 6, vI 1, .unset] [iI 1])) _
    refine XS.iloadN X4.here hx rfl (hb hby d5_15) rfl ?_
    show Steps _ _ _ (T4.setTop (mkF m 16 #[vR a1, vR a2, vI 1, vI 6, vI 1, .unset] [iI 6, iI 1])) _
    refine XS.icmpNo X4.here hx rfl (hb hby d5_16) rfl (tlt (by decide : (1 : Int32) < (6 : Int32))).2.1 ?_
    show Steps _ _ _ (T4.setTop (mkF m 19 #[vR a1, vR a2, vI 1, vI 6, vI 1, .unset] [])) _
    refine XS.iload X4.here hx rfl (hb hby d5_19) rfl ?_
    show Steps _ _ _ (T4.setTop (mkF m 21 #[vR a1, vR a2, vI 1, vI 6, vI 1, .unset] [iI 1])) _
    refine XS.iloadN X4.here hx rfl (hb hby d5_21) rfl ?_
    show Steps _ _ _ (T4.setTop (mkF m 22 #[vR a1, vR a2, vI 1, vI 6, vI 1, .unset] [iI 6, iI 1])) _
    refine XS.icmpNo X4.here hx rfl (hb hby d5_22) rfl (tlt (by decide : (1 : Int32) < (6 : Int32))).2.1 ?_
    show Steps _ _ _ (T4.setTop (mkF m 25 #[vR a1, vR a2, vI 1, vI 6, vI 1, .unset] [])) _
    refine XS.aloadN X4.here hx rfl (hb hby d5_25) rfl rfl ?_
    show Steps _ _ _ (T4.setTop (mkF m 26 #[vR a1, vR a2, vI 1, vI 6, vI 1, .unset] [iR a2])) _
    refine XS.iload X4.here hx rfl (hb hby d5_26) rfl ?_
    show Steps _ _ _ (T4.setTop (mkF m 28 #[vR a1, vR a2, vI 1, vI 6, vI 1, .unset] [iI 1, iR a2])) _
    refine X4.baloadBytes hx (j := (1 : Int32)) (v := (.int x1)) (by rw [e4]; exact Ar6.1) (State.isArrayOf_alike hZ.alike Ar6.2.1) Ar6.2.2 hin7 hat8 (g := (mkF m 28 #[vR a1, vR a2, vI 1, vI 6, vI 1, .unset] [iI 1, iR a2])) rfl rfl (hb hby d5_28) _ ?_
    show Steps _ _ _ (T4.setTop (mkF m 29 #[vR a1, vR a2, vI 1, vI 6, vI 1, .unset] [iI x1])) _
    refine st9.trans ?_
    show Steps _ _ _ (T9.setTop (mkF m 32 #[vR a1, vR a2, vI 1, vI 6, vI 1, .unset] [iI (own_sep x1)])) _
    refine XS.ifYes X9.here hx rfl (pc0 := 32) (pc' := 41) rfl (hb hby d5_32) rfl ((if0 _ _).trans (teq hx1).1) (by decide) (by decide) ?_
    show Steps _ _ _ (T9.setTop (mkF m 41 #[vR a1, vR a2, vI 1, vI 6, vI 1, .unset] [])) _
    refine XS.iload X9.here hx rfl (hb hby d5_41) rfl ?_
    show Steps _ _ _ (T9.setTop (mkF m 43 #[vR a1, vR a2, vI 1, vI 6, vI 1, .unset] [iI 1])) _
    refine XS.istore X9.here hx rfl (hb hby d5_43) rfl (l' := #[vR a1, vR a2, vI 1, vI 6, vI 1, vI 1]) rfl ?_
    show Steps _ _ _ (T9.setTop (mkF m 45 #[vR a1, vR a2, vI 1, vI 6, vI 1, vI 1] [])) _
    refine XS.iload X9.here hx rfl (hb hby d5_45) rfl ?_
    show Steps _ _ _ (T9.setTop (mkF m 47 #[vR a1, vR a2, vI 1, vI 6, vI 1, vI 1] [iI 1])) _
    refine XS.iloadN X9.here hx rfl (hb hby d5_47) rfl ?_
    show Steps _ _ _ (T9.setTop (mkF m 48 #[vR a1, vR a2, vI 1, vI 6, vI 1, vI 1] [iI 6, iI 1])) _
    refine XS.icmpNo X9.here hx rfl (hb hby d5_48) rfl (tlt (by decide : (1 : Int32) < (6 : Int32))).2.1 ?_
    show Steps _ _ _ (T9.setTop (mkF m 51 #[vR a1, vR a2, vI 1, vI 6, vI 1, vI 1] [])) _
    refine XS.aloadN X9.here hx rfl (hb hby d5_51) rfl rfl ?_
    show Steps _ _ _ (T9.setTop (mkF m 52 #[vR a1, vR a2, vI 1, vI 6, vI 1, vI 1] [iR a2])) _
    refine XS.iload X9.here hx rfl (hb hby d5_52) rfl ?_
    show Steps _ _ _ (T9.setTop (mkF m 54 #[vR a1, vR a2, vI 1, vI 6, vI 1, vI 1] [iI 1, iR a2])) _
    refine X9.baloadBytes hx (j := (1 : Int32)) (v := (.int x1)) (by rw [e9]; exact Ar6.1) (State.isArrayOf_alike hZ.alike Ar6.2.1) Ar6.2.2 hin10 hat11 (g := (mkF m 54 #[vR a1, vR a2, vI 1, vI 6, vI 1, vI 1] [iI 1, iR a2])) rfl rfl (hb hby d5_54) _ ?_
    show Steps _ _ _ (T9.setTop (mkF m 55 #[vR a1, vR a2, vI 1, vI 6, vI 1, vI 1] [iI x1])) _
    refine st12.trans ?_
    show Steps _ _ _ (T12.setTop (mkF m 58 #[vR a1, vR a2, vI 1, vI 6, vI 1, vI 1] [iI (own_sep x1)])) _
    refine XS.ifNo X12.here hx rfl (hb hby d5_58) rfl ((if0 _ _).trans (teq hx1).2) ?_
    show Steps _ _ _ (T12.setTop (mkF m 61 #[vR a1, vR a2, vI 1, vI 6, vI 1, vI 1] [])) _
    refine XS.iinc X12.here hx rfl (hb hby d5_61) rfl (l' := #[vR a1, vR a2, vI 1, vI 6, vI ((1 : Int32) + (1 : Int32)), vI 1]) rfl ?_
    rw [(by decide : ((1 : Int32) + (1 : Int32)) = (2 : Int32))]
    show Steps _ _ _ (T12.setTop (mkF m 64 #[vR a1, vR a2, vI 1, vI 6, vI 2, vI 1] [])) _
    refine XS.goto X12.here hx rfl (pc0 := 64) (pc' := 45) rfl (hb hby d5_64) (by decide) (by decide) ?_
    show Steps _ _ _ (T12.setTop (mkF m 45 #[vR a1, vR a2, vI 1, vI 6, vI 2, vI 1] [])) _
    refine XS.iload X12.here hx rfl (hb hby d5_45) rfl ?_
    show Steps _ _ _ (T12.setTop (mkF m 47 #[vR a1, vR a2, vI 1, vI 6, vI 2, vI 1] [iI 2])) _
    refine XS.iloadN X12.here hx rfl (hb hby d5_47) rfl ?_
    show Steps _ _ _ (T12.setTop (mkF m 48 #[vR a1, vR a2, vI 1, vI 6, vI 2, vI 1] [iI 6, iI 2])) _
    refine XS.icmpNo X12.here hx rfl (hb hby d5_48) rfl (tlt (by decide : (2 : Int32) < (6 : Int32))).2.1 ?_
    show Steps _ _ _ (T12.setTop (mkF m 51 #[vR a1, vR a2, vI 1, vI 6, vI 2, vI 1] [])) _
    refine XS.aloadN X12.here hx rfl (hb hby d5_51) rfl rfl ?_
    show Steps _ _ _ (T12.setTop (mkF m 52 #[vR a1, vR a2, vI 1, vI 6, vI 2, vI 1] [iR a2])) _
    refine XS.iload X12.here hx rfl (hb hby d5_52) rfl ?_
    show Steps _ _ _ (T12.setTop (mkF m 54 #[vR a1, vR a2, vI 1, vI 6, vI 2, vI 1] [iI 2, iR a2])) _
    refine X12.baloadBytes hx (j := (2 : Int32)) (v := (.int x2)) (by rw [e12]; exact Ar6.1) (State.isArrayOf_alike hZ.alike Ar6.2.1) Ar6.2.2 hin13 hat14 (g := (mkF m 54 #[vR a1, vR a2, vI 1, vI 6, vI 2, vI 1] [iI 2, iR a2])) rfl rfl (hb hby d5_54) _ ?_
    show Steps _ _ _ (T12.setTop (mkF m 55 #[vR a1, vR a2, vI 1, vI 6, vI 2, vI 1] [iI x2])) _
    refine st15.trans ?_
    show Steps _ _ _ (T15.setTop (mkF m 58 #[vR a1, vR a2, vI 1, vI 6, vI 2, vI 1] [iI (own_sep x2)])) _
    refine XS.ifNo X15.here hx rfl (hb hby d5_58) rfl ((if0 _ _).trans (teq hx2).2) ?_
    show Steps _ _ _ (T15.setTop (mkF m 61 #[vR a1, vR a2, vI 1, vI 6, vI 2, vI 1] [])) _
    refine XS.iinc X15.here hx rfl (hb hby d5_61) rfl (l' := #[vR a1, vR a2, vI 1, vI 6, vI ((2 : Int32) + (1 : Int32)), vI 1]) rfl ?_
    rw [(by decide : ((2 : Int32) + (1 : Int32)) = (3 : Int32))]
    show Steps _ _ _ (T15.setTop (mkF m 64 #[vR a1, vR a2, vI 1, vI 6, vI 3, vI 1] [])) _
    refine XS.goto X15.here hx rfl (pc0 := 64) (pc' := 45) rfl (hb hby d5_64) (by decide) (by decide) ?_
    show Steps _ _ _ (T15.setTop (mkF m 45 #[vR a1, vR a2, vI 1, vI 6, vI 3, vI 1] [])) _
    refine XS.iload X15.here hx rfl (hb hby d5_45) rfl ?_
    show Steps _ _ _ (T15.setTop (mkF m 47 #[vR a1, vR a2, vI 1, vI 6, vI 3, vI 1] [iI 3])) _
    refine XS.iloadN X15.here hx rfl (hb hby d5_47) rfl ?_
    show Steps _ _ _ (T15.setTop (mkF m 48 #[vR a1, vR a2, vI 1, vI 6, vI 3, vI 1] [iI 6, iI 3])) _
    refine XS.icmpNo X15.here hx rfl (hb hby d5_48) rfl (tlt (by decide : (3 : Int32) < (6 : Int32))).2.1 ?_
    show Steps _ _ _ (T15.setTop (mkF m 51 #[vR a1, vR a2, vI 1, vI 6, vI 3, vI 1] [])) _
    refine XS.aloadN X15.here hx rfl (hb hby d5_51) rfl rfl ?_
    show Steps _ _ _ (T15.setTop (mkF m 52 #[vR a1, vR a2, vI 1, vI 6, vI 3, vI 1] [iR a2])) _
    refine XS.iload X15.here hx rfl (hb hby d5_52) rfl ?_
    show Steps _ _ _ (T15.setTop (mkF m 54 #[vR a1, vR a2, vI 1, vI 6, vI 3, vI 1] [iI 3, iR a2])) _
    refine X15.baloadBytes hx (j := (3 : Int32)) (v := (.int x3)) (by rw [e15]; exact Ar6.1) (State.isArrayOf_alike hZ.alike Ar6.2.1) Ar6.2.2 hin16 hat17 (g := (mkF m 54 #[vR a1, vR a2, vI 1, vI 6, vI 3, vI 1] [iI 3, iR a2])) rfl rfl (hb hby d5_54) _ ?_
    show Steps _ _ _ (T15.setTop (mkF m 55 #[vR a1, vR a2, vI 1, vI 6, vI 3, vI 1] [iI x3])) _
    refine st18.trans ?_
    show Steps _ _ _ (T18.setTop (mkF m 58 #[vR a1, vR a2, vI 1, vI 6, vI 3, vI 1] [iI (own_sep x3)])) _
    refine XS.ifYes X18.here hx rfl (pc0 := 58) (pc' := 67) rfl (hb hby d5_58) rfl ((if0 _ _).trans (feq hx3).2) (by decide) (by decide) ?_
    show Steps _ _ _ (T18.setTop (mkF m 67 #[vR a1, vR a2, vI 1, vI 6, vI 3, vI 1] [])) _
    refine XS.iload X18.here hx rfl (hb hby d5_67) rfl ?_
    show Steps _ _ _ (T18.setTop (mkF m 69 #[vR a1, vR a2, vI 1, vI 6, vI 3, vI 1] [iI 3])) _
    refine XS.iload X18.here hx rfl (hb hby d5_69) rfl ?_
    show Steps _ _ _ (T18.setTop (mkF m 71 #[vR a1, vR a2, vI 1, vI 6, vI 3, vI 1] [iI 1, iI 3])) _
    refine XS.icmpNo X18.here hx rfl (hb hby d5_71) rfl (tlt (by decide : (1 : Int32) < (3 : Int32))).2.2.2 ?_
    show Steps _ _ _ (T18.setTop (mkF m 74 #[vR a1, vR a2, vI 1, vI 6, vI 3, vI 1] [])) _
    refine XS.aloadN X18.here hx rfl (hb hby d5_74) rfl rfl ?_
    show Steps _ _ _ (T18.setTop (mkF m 75 #[vR a1, vR a2, vI 1, vI 6, vI 3, vI 1] [iR a1])) _
    refine st19 _ ?_
    show Steps _ _ _ (T19.setTop (mkF m 78 #[vR a1, vR a2, vI 1, vI 6, vI 3, vI 1] [iI 0])) _
    refine XS.aloadN X19.here hx rfl (hb hby d5_78) rfl rfl ?_
    show Steps _ _ _ (T19.setTop (mkF m 79 #[vR a1, vR a2, vI 1, vI 6, vI 3, vI 1] [iR a1, iI 0])) _
    refine st21 _ ?_
    show Steps _ _ _ (T21.setTop (mkF m 82 #[vR a1, vR a2, vI 1, vI 6, vI 3, vI 1] [iR s1, iI 0])) _
    refine X21.arraylength hx (by rw [e21]; exact Ar23.1) (State.isArrayOf_alike hZ.alike Ar23.2.1) (g := (mkF m 82 #[vR a1, vR a2, vI 1, vI 6, vI 3, vI 1] [iR s1, iI 0])) rfl rfl (hb hby d5_82) _ ?_
    rw [len_of S23 M23]
    show Steps _ _ _ (T21.setTop (mkF m 83 #[vR a1, vR a2, vI 1, vI 6, vI 3, vI 1] [iI 16, iI 0])) _
    refine XS.icmpYes X21.here hx rfl (pc0 := 83) (pc' := 120) rfl (hb hby d5_83) rfl (feq (by decide : ¬ ((0 : Int32) = (16 : Int32)))).2 (by decide) (by decide) ?_
    show Steps _ _ _ (T21.setTop (mkF m 120 #[vR a1, vR a2, vI 1, vI 6, vI 3, vI 1] [])) _
    refine XS.aloadN X21.here hx rfl (hb hby d5_120) rfl rfl ?_
    show Steps _ _ _ (T21.setTop (mkF m 121 #[vR a1, vR a2, vI 1, vI 6, vI 3, vI 1] [iR a1])) _
    refine st24 _ ?_
    show Steps _ _ _ (T24.setTop (mkF m 124 #[vR a1, vR a2, vI 1, vI 6, vI 3, vI 1] [iR s1])) _
    refine XS.aloadN X24.here hx rfl (hb hby d5_124) rfl rfl ?_
    show Steps _ _ _ (T24.setTop (mkF m 125 #[vR a1, vR a2, vI 1, vI 6, vI 3, vI 1] [iR a1, iR s1])) _
    refine st25 _ ?_
    show Steps _ _ _ (T25.setTop (mkF m 128 #[vR a1, vR a2, vI 1, vI 6, vI 3, vI 1] [iI 0, iR s1])) _
    refine XS.iload X25.here hx rfl (hb hby d5_128) rfl ?_
    show Steps _ _ _ (T25.setTop (mkF m 130 #[vR a1, vR a2, vI 1, vI 6, vI 3, vI 1] [iI 1, iI 0, iR s1])) _
    refine st27 _ ?_
    show Steps _ _ _ (T27.setTop (mkF m 131 #[vR a1, vR a2, vI 1, vI 6, vI 3, vI 1] [])) _
    refine XS.aloadN X27.here hx rfl (hb hby d5_131) rfl rfl ?_
    show Steps _ _ _ (T27.setTop (mkF m 132 #[vR a1, vR a2, vI 1, vI 6, vI 3, vI 1] [iR a1])) _
    refine st29 _ ?_
    show Steps _ _ _ (T29.setTop (mkF m 135 #[vR a1, vR a2, vI 1, vI 6, vI 3, vI 1] [iR s2])) _
    refine XS.aloadN X29.here hx rfl (hb hby d5_135) rfl rfl ?_
    show Steps _ _ _ (T29.setTop (mkF m 136 #[vR a1, vR a2, vI 1, vI 6, vI 3, vI 1] [iR a1, iR s2])) _
    refine st31 _ ?_
    show Steps _ _ _ (T31.setTop (mkF m 139 #[vR a1, vR a2, vI 1, vI 6, vI 3, vI 1] [iI 0, iR s2])) _
    refine XS.iload X31.here hx rfl (hb hby d5_139) rfl ?_
    show Steps _ _ _ (T31.setTop (mkF m 141 #[vR a1, vR a2, vI 1, vI 6, vI 3, vI 1] [iI 3, iI 0, iR s2])) _
    refine st35 _ ?_
    show Steps _ _ _ (T35.setTop (mkF m 142 #[vR a1, vR a2, vI 1, vI 6, vI 3, vI 1] [])) _
    refine XS.aloadN X35.here hx rfl (hb hby d5_142) rfl rfl ?_
    show Steps _ _ _ (T35.setTop (mkF m 143 #[vR a1, vR a2, vI 1, vI 6, vI 3, vI 1] [iR a1])) _
    refine XS.dup X35.here hx rfl (hb hby d5_143) rfl rfl ?_
    show Steps _ _ _ (T35.setTop (mkF m 144 #[vR a1, vR a2, vI 1, vI 6, vI 3, vI 1] [iR a1, iR a1])) _
    refine st37 _ ?_
    show Steps _ _ _ (T37.setTop (mkF m 147 #[vR a1, vR a2, vI 1, vI 6, vI 3, vI 1] [iI 0, iR a1])) _
    refine XS.iconst X37.here hx rfl (hb hby d5_147) ?_
    show Steps _ _ _ (T37.setTop (mkF m 148 #[vR a1, vR a2, vI 1, vI 6, vI 3, vI 1] [iI 1, iI 0, iR a1])) _
    refine XS.iadd X37.here hx rfl (hb hby d5_148) rfl ?_
    rw [(by decide : ((0 : Int32) + (1 : Int32)) = (1 : Int32))]
    show Steps _ _ _ (T37.setTop (mkF m 149 #[vR a1, vR a2, vI 1, vI 6, vI 3, vI 1] [iI 1, iR a1])) _
    refine st39 _ ?_
    show Steps _ _ _ (T39.setTop (mkF m 152 #[vR a1, vR a2, vI 1, vI 6, vI 3, vI 1] [])) _
    refine XS.goto X39.here hx rfl (pc0 := 152) (pc' := 13) rfl (hb hby d5_152) (by decide) (by decide) ?_
    show Steps _ _ _ (T39.setTop (mkF m 13 #[vR a1, vR a2, vI 1, vI 6, vI 3, vI 1] [])) _
    refine XS.iload X39.here hx rfl (hb hby d5_13) rfl ?_
    show Steps _ _ _ (T39.setTop (mkF m 15 #[vR a1, vR a2, vI 1, vI 6, vI 3, vI 1] [iI 3])) _
    refine XS.iloadN X39.here hx rfl (hb hby d5_15) rfl ?_
    show Steps _ _ _ (T39.setTop (mkF m 16 #[vR a1, vR a2, vI 1, vI 6, vI 3, vI 1] [iI 6, iI 3])) _
    refine XS.icmpNo X39.here hx rfl (hb hby d5_16) rfl (tlt (by decide : (3 : Int32) < (6 : Int32))).2.1 ?_
    show Steps _ _ _ (T39.setTop (mkF m 19 #[vR a1, vR a2, vI 1, vI 6, vI 3, vI 1] [])) _
    refine XS.iload X39.here hx rfl (hb hby d5_19) rfl ?_
    show Steps _ _ _ (T39.setTop (mkF m 21 #[vR a1, vR a2, vI 1, vI 6, vI 3, vI 1] [iI 3])) _
    refine XS.iloadN X39.here hx rfl (hb hby d5_21) rfl ?_
    show Steps _ _ _ (T39.setTop (mkF m 22 #[vR a1, vR a2, vI 1, vI 6, vI 3, vI 1] [iI 6, iI 3])) _
    refine XS.icmpNo X39.here hx rfl (hb hby d5_22) rfl (tlt (by decide : (3 : Int32) < (6 : Int32))).2.1 ?_
    show Steps _ _ _ (T39.setTop (mkF m 25 #[vR a1, vR a2, vI 1, vI 6, vI 3, vI 1] [])) _
    refine XS.aloadN X39.here hx rfl (hb hby d5_25) rfl rfl ?_
    show Steps _ _ _ (T39.setTop (mkF m 26 #[vR a1, vR a2, vI 1, vI 6, vI 3, vI 1] [iR a2])) _
    refine XS.iload X39.here hx rfl (hb hby d5_26) rfl ?_
    show Steps _ _ _ (T39.setTop (mkF m 28 #[vR a1, vR a2, vI 1, vI 6, vI 3, vI 1] [iI 3, iR a2])) _
    refine X39.baloadBytes hx (j := (3 : Int32)) (v := (.int x3)) (by rw [e39]; exact Ar41.1) (State.isArrayOf_alike hZ.alike Ar41.2.1) Ar41.2.2 hin42 hat43 (g := (mkF m 28 #[vR a1, vR a2, vI 1, vI 6, vI 3, vI 1] [iI 3, iR a2])) rfl rfl (hb hby d5_28) _ ?_
    show Steps _ _ _ (T39.setTop (mkF m 29 #[vR a1, vR a2, vI 1, vI 6, vI 3, vI 1] [iI x3])) _
    refine st44.trans ?_
    show Steps _ _ _ (T44.setTop (mkF m 32 #[vR a1, vR a2, vI 1, vI 6, vI 3, vI 1] [iI (own_sep x3)])) _
    refine XS.ifNo X44.here hx rfl (hb hby d5_32) rfl ((if0 _ _).trans (feq hx3).1) ?_
    show Steps _ _ _ (T44.setTop (mkF m 35 #[vR a1, vR a2, vI 1, vI 6, vI 3, vI 1] [])) _
    refine XS.iinc X44.here hx rfl (hb hby d5_35) rfl (l' := #[vR a1, vR a2, vI 1, vI 6, vI ((3 : Int32) + (1 : Int32)), vI 1]) rfl ?_
    rw [(by decide : ((3 : Int32) + (1 : Int32)) = (4 : Int32))]
    show Steps _ _ _ (T44.setTop (mkF m 38 #[vR a1, vR a2, vI 1, vI 6, vI 4, vI 1] [])) _
    refine XS.goto X44.here hx rfl (pc0 := 38) (pc' := 19) rfl (hb hby d5_38) (by decide) (by decide) ?_
    show Steps _ _ _ (T44.setTop (mkF m 19 #[vR a1, vR a2, vI 1, vI 6, vI 4, vI 1] [])) _
    refine XS.iload X44.here hx rfl (hb hby d5_19) rfl ?_
    show Steps _ _ _ (T44.setTop (mkF m 21 #[vR a1, vR a2, vI 1, vI 6, vI 4, vI 1] [iI 4])) _
    refine XS.iloadN X44.here hx rfl (hb hby d5_21) rfl ?_
    show Steps _ _ _ (T44.setTop (mkF m 22 #[vR a1, vR a2, vI 1, vI 6, vI 4, vI 1] [iI 6, iI 4])) _
    refine XS.icmpNo X44.here hx rfl (hb hby d5_22) rfl (tlt (by decide : (4 : Int32) < (6 : Int32))).2.1 ?_
    show Steps _ _ _ (T44.setTop (mkF m 25 #[vR a1, vR a2, vI 1, vI 6, vI 4, vI 1] [])) _
    refine XS.aloadN X44.here hx rfl (hb hby d5_25) rfl rfl ?_
    show Steps _ _ _ (T44.setTop (mkF m 26 #[vR a1, vR a2, vI 1, vI 6, vI 4, vI 1] [iR a2])) _
    refine XS.iload X44.here hx rfl (hb hby d5_26) rfl ?_
    show Steps _ _ _ (T44.setTop (mkF m 28 #[vR a1, vR a2, vI 1, vI 6, vI 4, vI 1] [iI 4, iR a2])) _
    refine X44.baloadBytes hx (j := (4 : Int32)) (v := (.int x4)) (by rw [e44]; exact Ar41.1) (State.isArrayOf_alike hZ.alike Ar41.2.1) Ar41.2.2 hin45 hat46 (g := (mkF m 28 #[vR a1, vR a2, vI 1, vI 6, vI 4, vI 1] [iI 4, iR a2])) rfl rfl (hb hby d5_28) _ ?_
    show Steps _ _ _ (T44.setTop (mkF m 29 #[vR a1, vR a2, vI 1, vI 6, vI 4, vI 1] [iI x4])) _
    refine st47.trans ?_
    show Steps _ _ _ (T47.setTop (mkF m 32 #[vR a1, vR a2, vI 1, vI 6, vI 4, vI 1] [iI (own_sep x4)])) _
    refine XS.ifYes X47.here hx rfl (pc0 := 32) (pc' := 41) rfl (hb hby d5_32) rfl ((if0 _ _).trans (teq hx4).1) (by decide) (by decide) ?_
    show Steps _ _ _ (T47.setTop (mkF m 41 #[vR a1, vR a2, vI 1, vI 6, vI 4, vI 1] [])) _
    refine XS.iload X47.here hx rfl (hb hby d5_41) rfl ?_
    show Steps _ _ _ (T47.setTop (mkF m 43 #[vR a1, vR a2, vI 1, vI 6, vI 4, vI 1] [iI 4])) _
    refine XS.istore X47.here hx rfl (hb hby d5_43) rfl (l' := #[vR a1, vR a2, vI 1, vI 6, vI 4, vI 4]) rfl ?_
    show Steps _ _ _ (T47.setTop (mkF m 45 #[vR a1, vR a2, vI 1, vI 6, vI 4, vI 4] [])) _
    refine XS.iload X47.here hx rfl (hb hby d5_45) rfl ?_
    show Steps _ _ _ (T47.setTop (mkF m 47 #[vR a1, vR a2, vI 1, vI 6, vI 4, vI 4] [iI 4])) _
    refine XS.iloadN X47.here hx rfl (hb hby d5_47) rfl ?_
    show Steps _ _ _ (T47.setTop (mkF m 48 #[vR a1, vR a2, vI 1, vI 6, vI 4, vI 4] [iI 6, iI 4])) _
    refine XS.icmpNo X47.here hx rfl (hb hby d5_48) rfl (tlt (by decide : (4 : Int32) < (6 : Int32))).2.1 ?_
    show Steps _ _ _ (T47.setTop (mkF m 51 #[vR a1, vR a2, vI 1, vI 6, vI 4, vI 4] [])) _
    refine XS.aloadN X47.here hx rfl (hb hby d5_51) rfl rfl ?_
    show Steps _ _ _ (T47.setTop (mkF m 52 #[vR a1, vR a2, vI 1, vI 6, vI 4, vI 4] [iR a2])) _
    refine XS.iload X47.here hx rfl (hb hby d5_52) rfl ?_
    show Steps _ _ _ (T47.setTop (mkF m 54 #[vR a1, vR a2, vI 1, vI 6, vI 4, vI 4] [iI 4, iR a2])) _
    refine X47.baloadBytes hx (j := (4 : Int32)) (v := (.int x4)) (by rw [e47]; exact Ar41.1) (State.isArrayOf_alike hZ.alike Ar41.2.1) Ar41.2.2 hin48 hat49 (g := (mkF m 54 #[vR a1, vR a2, vI 1, vI 6, vI 4, vI 4] [iI 4, iR a2])) rfl rfl (hb hby d5_54) _ ?_
    show Steps _ _ _ (T47.setTop (mkF m 55 #[vR a1, vR a2, vI 1, vI 6, vI 4, vI 4] [iI x4])) _
    refine st50.trans ?_
    show Steps _ _ _ (T50.setTop (mkF m 58 #[vR a1, vR a2, vI 1, vI 6, vI 4, vI 4] [iI (own_sep x4)])) _
    refine XS.ifNo X50.here hx rfl (hb hby d5_58) rfl ((if0 _ _).trans (teq hx4).2) ?_
    show Steps _ _ _ (T50.setTop (mkF m 61 #[vR a1, vR a2, vI 1, vI 6, vI 4, vI 4] [])) _
    refine XS.iinc X50.here hx rfl (hb hby d5_61) rfl (l' := #[vR a1, vR a2, vI 1, vI 6, vI ((4 : Int32) + (1 : Int32)), vI 4]) rfl ?_
    rw [(by decide : ((4 : Int32) + (1 : Int32)) = (5 : Int32))]
    show Steps _ _ _ (T50.setTop (mkF m 64 #[vR a1, vR a2, vI 1, vI 6, vI 5, vI 4] [])) _
    refine XS.goto X50.here hx rfl (pc0 := 64) (pc' := 45) rfl (hb hby d5_64) (by decide) (by decide) ?_
    show Steps _ _ _ (T50.setTop (mkF m 45 #[vR a1, vR a2, vI 1, vI 6, vI 5, vI 4] [])) _
    refine XS.iload X50.here hx rfl (hb hby d5_45) rfl ?_
    show Steps _ _ _ (T50.setTop (mkF m 47 #[vR a1, vR a2, vI 1, vI 6, vI 5, vI 4] [iI 5])) _
    refine XS.iloadN X50.here hx rfl (hb hby d5_47) rfl ?_
    show Steps _ _ _ (T50.setTop (mkF m 48 #[vR a1, vR a2, vI 1, vI 6, vI 5, vI 4] [iI 6, iI 5])) _
    refine XS.icmpNo X50.here hx rfl (hb hby d5_48) rfl (tlt (by decide : (5 : Int32) < (6 : Int32))).2.1 ?_
    show Steps _ _ _ (T50.setTop (mkF m 51 #[vR a1, vR a2, vI 1, vI 6, vI 5, vI 4] [])) _
    refine XS.aloadN X50.here hx rfl (hb hby d5_51) rfl rfl ?_
    show Steps _ _ _ (T50.setTop (mkF m 52 #[vR a1, vR a2, vI 1, vI 6, vI 5, vI 4] [iR a2])) _
    refine XS.iload X50.here hx rfl (hb hby d5_52) rfl ?_
    show Steps _ _ _ (T50.setTop (mkF m 54 #[vR a1, vR a2, vI 1, vI 6, vI 5, vI 4] [iI 5, iR a2])) _
    refine X50.baloadBytes hx (j := (5 : Int32)) (v := (.int x5)) (by rw [e50]; exact Ar41.1) (State.isArrayOf_alike hZ.alike Ar41.2.1) Ar41.2.2 hin51 hat52 (g := (mkF m 54 #[vR a1, vR a2, vI 1, vI 6, vI 5, vI 4] [iI 5, iR a2])) rfl rfl (hb hby d5_54) _ ?_
    show Steps _ _ _ (T50.setTop (mkF m 55 #[vR a1, vR a2, vI 1, vI 6, vI 5, vI 4] [iI x5])) _
    refine st53.trans ?_
    show Steps _ _ _ (T53.setTop (mkF m 58 #[vR a1, vR a2, vI 1, vI 6, vI 5, vI 4] [iI (own_sep x5)])) _
    refine XS.ifNo X53.here hx rfl (hb hby d5_58) rfl ((if0 _ _).trans (teq hx5).2) ?_
    show Steps _ _ _ (T53.setTop (mkF m 61 #[vR a1, vR a2, vI 1, vI 6, vI 5, vI 4] [])) _
    refine XS.iinc X53.here hx rfl (hb hby d5_61) rfl (l' := #[vR a1, vR a2, vI 1, vI 6, vI ((5 : Int32) + (1 : Int32)), vI 4]) rfl ?_
    rw [(by decide : ((5 : Int32) + (1 : Int32)) = (6 : Int32))]
    show Steps _ _ _ (T53.setTop (mkF m 64 #[vR a1, vR a2, vI 1, vI 6, vI 6, vI 4] [])) _
    refine XS.goto X53.here hx rfl (pc0 := 64) (pc' := 45) rfl (hb hby d5_64) (by decide) (by decide) ?_
    show Steps _ _ _ (T53.setTop (mkF m 45 #[vR a1, vR a2, vI 1, vI 6, vI 6, vI 4] [])) _
    refine XS.iload X53.here hx rfl (hb hby d5_45) rfl ?_
    show Steps _ _ _ (T53.setTop (mkF m 47 #[vR a1, vR a2, vI 1, vI 6, vI 6, vI 4] [iI 6])) _
    refine XS.iloadN X53.here hx rfl (hb hby d5_47) rfl ?_
    show Steps _ _ _ (T53.setTop (mkF m 48 #[vR a1, vR a2, vI 1, vI 6, vI 6, vI 4] [iI 6, iI 6])) _
    refine XS.icmpYes X53.here hx rfl (pc0 := 48) (pc' := 67) rfl (hb hby d5_48) rfl (flt (by decide : ¬ ((6 : Int32) < (6 : Int32)))).2.1 (by decide) (by decide) ?_
    show Steps _ _ _ (T53.setTop (mkF m 67 #[vR a1, vR a2, vI 1, vI 6, vI 6, vI 4] [])) _
    refine XS.iload X53.here hx rfl (hb hby d5_67) rfl ?_
    show Steps _ _ _ (T53.setTop (mkF m 69 #[vR a1, vR a2, vI 1, vI 6, vI 6, vI 4] [iI 6])) _
    refine XS.iload X53.here hx rfl (hb hby d5_69) rfl ?_
    show Steps _ _ _ (T53.setTop (mkF m 71 #[vR a1, vR a2, vI 1, vI 6, vI 6, vI 4] [iI 4, iI 6])) _
    refine XS.icmpNo X53.here hx rfl (hb hby d5_71) rfl (tlt (by decide : (4 : Int32) < (6 : Int32))).2.2.2 ?_
    show Steps _ _ _ (T53.setTop (mkF m 74 #[vR a1, vR a2, vI 1, vI 6, vI 6, vI 4] [])) _
    refine XS.aloadN X53.here hx rfl (hb hby d5_74) rfl rfl ?_
    show Steps _ _ _ (T53.setTop (mkF m 75 #[vR a1, vR a2, vI 1, vI 6, vI 6, vI 4] [iR a1])) _
    refine st54 _ ?_
    show Steps _ _ _ (T54.setTop (mkF m 78 #[vR a1, vR a2, vI 1, vI 6, vI 6, vI 4] [iI 1])) _
    refine XS.aloadN X54.here hx rfl (hb hby d5_78) rfl rfl ?_
    show Steps _ _ _ (T54.setTop (mkF m 79 #[vR a1, vR a2, vI 1, vI 6, vI 6, vI 4] [iR a1, iI 1])) _
    refine st56 _ ?_
    show Steps _ _ _ (T56.setTop (mkF m 82 #[vR a1, vR a2, vI 1, vI 6, vI 6, vI 4] [iR s1, iI 1])) _
    refine X56.arraylength hx (by rw [e56]; exact Ar58.1) (State.isArrayOf_alike hZ.alike Ar58.2.1) (g := (mkF m 82 #[vR a1, vR a2, vI 1, vI 6, vI 6, vI 4] [iR s1, iI 1])) rfl rfl (hb hby d5_82) _ ?_
    rw [len_of S58 M58]
    show Steps _ _ _ (T56.setTop (mkF m 83 #[vR a1, vR a2, vI 1, vI 6, vI 6, vI 4] [iI 16, iI 1])) _
    refine XS.icmpYes X56.here hx rfl (pc0 := 83) (pc' := 120) rfl (hb hby d5_83) rfl (feq (by decide : ¬ ((1 : Int32) = (16 : Int32)))).2 (by decide) (by decide) ?_
    show Steps _ _ _ (T56.setTop (mkF m 120 #[vR a1, vR a2, vI 1, vI 6, vI 6, vI 4] [])) _
    refine XS.aloadN X56.here hx rfl (hb hby d5_120) rfl rfl ?_
    show Steps _ _ _ (T56.setTop (mkF m 121 #[vR a1, vR a2, vI 1, vI 6, vI 6, vI 4] [iR a1])) _
    refine st59 _ ?_
    show Steps _ _ _ (T59.setTop (mkF m 124 #[vR a1, vR a2, vI 1, vI 6, vI 6, vI 4] [iR s1])) _
    refine XS.aloadN X59.here hx rfl (hb hby d5_124) rfl rfl ?_
    show Steps _ _ _ (T59.setTop (mkF m 125 #[vR a1, vR a2, vI 1, vI 6, vI 6, vI 4] [iR a1, iR s1])) _
    refine st60 _ ?_
    show Steps _ _ _ (T60.setTop (mkF m 128 #[vR a1, vR a2, vI 1, vI 6, vI 6, vI 4] [iI 1, iR s1])) _
    refine XS.iload X60.here hx rfl (hb hby d5_128) rfl ?_
    show Steps _ _ _ (T60.setTop (mkF m 130 #[vR a1, vR a2, vI 1, vI 6, vI 6, vI 4] [iI 4, iI 1, iR s1])) _
    refine st62 _ ?_
    show Steps _ _ _ (T62.setTop (mkF m 131 #[vR a1, vR a2, vI 1, vI 6, vI 6, vI 4] [])) _
    refine XS.aloadN X62.here hx rfl (hb hby d5_131) rfl rfl ?_
    show Steps _ _ _ (T62.setTop (mkF m 132 #[vR a1, vR a2, vI 1, vI 6, vI 6, vI 4] [iR a1])) _
    refine st64 _ ?_
    show Steps _ _ _ (T64.setTop (mkF m 135 #[vR a1, vR a2, vI 1, vI 6, vI 6, vI 4] [iR s2])) _
    refine XS.aloadN X64.here hx rfl (hb hby d5_135) rfl rfl ?_
    show Steps _ _ _ (T64.setTop (mkF m 136 #[vR a1, vR a2, vI 1, vI 6, vI 6, vI 4] [iR a1, iR s2])) _
    refine st66 _ ?_
    show Steps _ _ _ (T66.setTop (mkF m 139 #[vR a1, vR a2, vI 1, vI 6, vI 6, vI 4] [iI 1, iR s2])) _
    refine XS.iload X66.here hx rfl (hb hby d5_139) rfl ?_
    show Steps _ _ _ (T66.setTop (mkF m 141 #[vR a1, vR a2, vI 1, vI 6, vI 6, vI 4] [iI 6, iI 1, iR s2])) _
    refine st70 _ ?_
    show Steps _ _ _ (T70.setTop (mkF m 142 #[vR a1, vR a2, vI 1, vI 6, vI 6, vI 4] [])) _
    refine XS.aloadN X70.here hx rfl (hb hby d5_142) rfl rfl ?_
    show Steps _ _ _ (T70.setTop (mkF m 143 #[vR a1, vR a2, vI 1, vI 6, vI 6, vI 4] [iR a1])) _
    refine XS.dup X70.here hx rfl (hb hby d5_143) rfl rfl ?_
    show Steps _ _ _ (T70.setTop (mkF m 144 #[vR a1, vR a2, vI 1, vI 6, vI 6, vI 4] [iR a1, iR a1])) _
    refine st72 _ ?_
    show Steps _ _ _ (T72.setTop (mkF m 147 #[vR a1, vR a2, vI 1, vI 6, vI 6, vI 4] [iI 1, iR a1])) _
    refine XS.iconst X72.here hx rfl (hb hby d5_147) ?_
    show Steps _ _ _ (T72.setTop (mkF m 148 #[vR a1, vR a2, vI 1, vI 6, vI 6, vI 4] [iI 1, iI 1, iR a1])) _
    refine XS.iadd X72.here hx rfl (hb hby d5_148) rfl ?_
    rw [(by decide : ((1 : Int32) + (1 : Int32)) = (2 : Int32))]
    show Steps _ _ _ (T72.setTop (mkF m 149 #[vR a1, vR a2, vI 1, vI 6, vI 6, vI 4] [iI 2, iR a1])) _
    refine st74 _ ?_
    show Steps _ _ _ (T74.setTop (mkF m 152 #[vR a1, vR a2, vI 1, vI 6, vI 6, vI 4] [])) _
    refine XS.goto X74.here hx rfl (pc0 := 152) (pc' := 13) rfl (hb hby d5_152) (by decide) (by decide) ?_
    show Steps _ _ _ (T74.setTop (mkF m 13 #[vR a1, vR a2, vI 1, vI 6, vI 6, vI 4] [])) _
    refine XS.iload X74.here hx rfl (hb hby d5_13) rfl ?_
    show Steps _ _ _ (T74.setTop (mkF m 15 #[vR a1, vR a2, vI 1, vI 6, vI 6, vI 4] [iI 6])) _
    refine XS.iloadN X74.here hx rfl (hb hby d5_15) rfl ?_
    show Steps _ _ _ (T74.setTop (mkF m 16 #[vR a1, vR a2, vI 1, vI 6, vI 6, vI 4] [iI 6, iI 6])) _
    refine XS.icmpYes X74.here hx rfl (pc0 := 16) (pc' := 155) rfl (hb hby d5_16) rfl (flt (by decide : ¬ ((6 : Int32) < (6 : Int32)))).2.1 (by decide) (by decide) ?_
    show Steps _ _ _ (T74.setTop (mkF m 155 #[vR a1, vR a2, vI 1, vI 6, vI 6, vI 4] [])) _
    exact X74.returnOut hx Bd.returns (hb hby d5_155) hr
  · show Q5_1_6 Z a1 a2 s1 s2 k1 k2 kl x0 x1 x2 x3 x4 x5 x6 h0 n0 _ T74.heap _
    rw [e74]
    exact ⟨rfl, N74, K74, fk75, fk76, fk77, fk78, fk79, fk80⟩
theorem ef_5_1_7 (m : MethodId) (x0 : Addr) (x1 : Addr) : entryFrame m #[(.ref x0), (.ref x1), (.int (1 : Int32)), (.int (7 : Int32))] 6 = mkF m 0 #[.val (.ref x0), .val (.ref x1), .val (.int (1 : Int32)), .val (.int (7 : Int32)), .unset, .unset] [] := by first | (simp [entryFrame, mkF, argsToLocals, Value.category]; done) | rfl
def Q5_1_7 (Z : State) (a1 : Addr) (a2 : Addr) (s1 s2 : Addr) (k1 k2 kl : ClassId) (x0 : Int32) (x1 : Int32) (x2 : Int32) (x3 : Int32) (x4 : Int32) (x5 : Int32) (x6 : Int32) (h0 : Heap) (n0 : Nat) (v : Option Value) (h : Heap) (L : List Loc) : Prop := v = none ∧ Fr n0 L ∧ Keep h0 h [a1, s1, s2] ∧ Exa Z h a1 "com/example/tidemine/tidemine/TextFormat$Tokens" ∧ Fld Z h a1 "com/example/tidemine/tidemine/TextFormat$Tokens" "line" "[B" (.ref a2) ∧ Fld Z h a1 "com/example/tidemine/tidemine/TextFormat$Tokens" "starts" "[I" (.ref s1) ∧ Fld Z h a1 "com/example/tidemine/tidemine/TextFormat$Tokens" "ends" "[I" (.ref s2) ∧ Arv Z h s1 k1 .int (16 : Int32) [(.int (1 : Int32)), (.int (4 : Int32)), (.int (0 : Int32)), (.int (0 : Int32)), (.int (0 : Int32)), (.int (0 : Int32)), (.int (0 : Int32)), (.int (0 : Int32)), (.int (0 : Int32)), (.int (0 : Int32)), (.int (0 : Int32)), (.int (0 : Int32)), (.int (0 : Int32)), (.int (0 : Int32)), (.int (0 : Int32)), (.int (0 : Int32))] (.int (0 : Int32)) ∧ Arv Z h s2 k2 .int (16 : Int32) [(.int (3 : Int32)), (.int (7 : Int32)), (.int (0 : Int32)), (.int (0 : Int32)), (.int (0 : Int32)), (.int (0 : Int32)), (.int (0 : Int32)), (.int (0 : Int32)), (.int (0 : Int32)), (.int (0 : Int32)), (.int (0 : Int32)), (.int (0 : Int32)), (.int (0 : Int32)), (.int (0 : Int32)), (.int (0 : Int32)), (.int (0 : Int32))] (.int (0 : Int32))
set_option maxRecDepth 65536 in
set_option maxHeartbeats 40000000 in
theorem rm5_1_7 (l : Launch) (Z : State) (a0 : Array Value) (hw : ∀ d ∈ tables_1, d.before a0 Z = true) (ws : List Jvm.Cond) (a1 : Addr) (a2 : Addr) (s1 s2 : Addr) (k1 k2 kl : ClassId) (x0 : Int32) (x1 : Int32) (x2 : Int32) (x3 : Int32) (x4 : Int32) (x5 : Int32) (x6 : Int32) (h0 : Heap) (n0 : Nat) (Z0 : n0 ≤ h0.size) (E_a1 : Exa Z h0 a1 "com/example/tidemine/tidemine/TextFormat$Tokens") (g_a1 : n0 ≤ a1) (g_s1 : n0 ≤ s1) (g_s2 : n0 ≤ s2) (F_line : Fld Z h0 a1 "com/example/tidemine/tidemine/TextFormat$Tokens" "line" "[B" .null) (F_starts : Fld Z h0 a1 "com/example/tidemine/tidemine/TextFormat$Tokens" "starts" "[I" (.ref s1)) (F_ends : Fld Z h0 a1 "com/example/tidemine/tidemine/TextFormat$Tokens" "ends" "[I" (.ref s2)) (F_count : Fld Z h0 a1 "com/example/tidemine/tidemine/TextFormat$Tokens" "count" "I" (.int (0 : Int32))) (V_1 : Arv Z h0 s1 k1 .int (16 : Int32) [(.int (0 : Int32)), (.int (0 : Int32)), (.int (0 : Int32)), (.int (0 : Int32)), (.int (0 : Int32)), (.int (0 : Int32)), (.int (0 : Int32)), (.int (0 : Int32)), (.int (0 : Int32)), (.int (0 : Int32)), (.int (0 : Int32)), (.int (0 : Int32)), (.int (0 : Int32)), (.int (0 : Int32)), (.int (0 : Int32)), (.int (0 : Int32))] (.int (0 : Int32))) (V_2 : Arv Z h0 s2 k2 .int (16 : Int32) [(.int (0 : Int32)), (.int (0 : Int32)), (.int (0 : Int32)), (.int (0 : Int32)), (.int (0 : Int32)), (.int (0 : Int32)), (.int (0 : Int32)), (.int (0 : Int32)), (.int (0 : Int32)), (.int (0 : Int32)), (.int (0 : Int32)), (.int (0 : Int32)), (.int (0 : Int32)), (.int (0 : Int32)), (.int (0 : Int32)), (.int (0 : Int32))] (.int (0 : Int32))) (V_l : Arv Z h0 a2 kl .byte (7 : Int32) [(.int x0), (.int x1), (.int x2), (.int x3), (.int x4), (.int x5), (.int x6)] (.int (0 : Int32))) (ne_a1_a2 : a1 ≠ a2) (ne_a1_s1 : a1 ≠ s1) (ne_a1_s2 : a1 ≠ s2) (ne_a2_s1 : a2 ≠ s1) (ne_a2_s2 : a2 ≠ s2) (ne_s1_s2 : s1 ≠ s2) (hx0 : (own_sep x0) = (0 : Int32)) (hx1 : (own_sep x1) = (0 : Int32)) (hx2 : (own_sep x2) = (0 : Int32)) (hx3 : ¬ (own_sep x3) = (0 : Int32)) (hx4 : (own_sep x4) = (0 : Int32)) (hx5 : (own_sep x5) = (0 : Int32)) (hx6 : (own_sep x6) = (0 : Int32)) :
    MetFree l (⟨"com/example/tidemine/tidemine/TextFormat$Tokens", "split", "([BII)V"⟩ : MethodName) (head1 (Jvm.Cond.code (⟨"com/example/tidemine/tidemine/TextFormat$Tokens", "split", "([BII)V"⟩ : MethodName) prog_41_method_2_code 6 none :: ws) ({ frames := 1, cells := 0, slots := 0, locals := 12 } : Room)) (fun a U => a = #[(.ref a1), (.ref a2), (.int (1 : Int32)), (.int (7 : Int32))] ∧ Z.Warmed39 U.vm ∧ U.heap = h0) (fun _ _ _ _ _ => True) (fun _ U o U' => ∃ v L, o = .returned v ∧ Q5_1_7 Z a1 a2 s1 s2 k1 k2 kl x0 x1 x2 x3 x4 x5 x6 h0 n0 v U'.heap L ∧ FrameEnd U o U' L ({ frames := 1, cells := 0, slots := 0, locals := 12 } : Room).cells ({ frames := 1, cells := 0, slots := 0, locals := 12 } : Room).slots) := by
  refine MetFree.of_bodySF (plainFor_of_name pn_2) hisR ?_
  intro p e s m args below meth c s₁ Bd hml0 hP hK
  obtain ⟨rfl, hZ, hh⟩ := hP
  have hx := Bd.exec
  have hby := Bd.bytes
  have hml : c.maxLocals = 6 := hml0
  have hown : s.vm.findClass "com/example/tidemine/tidemine/TextFormat$Tokens" = some m.cls := findClass_of_methodNamed Bd.named
  have hnm := (name_of_methodNamed Bd.named Bd.method).1
  have X0 : Stand p l e ({ frames := 1, cells := 0, slots := 0, locals := 12 } : Room) s m #[(.ref a1), (.ref a2), (.int (1 : Int32)), (.int (7 : Int32))] below meth c s₁ [] 0 0 := Stand.of_body Bd
  have e0 : s₁.heap = h0 := by rw [← hh, Bd.state]; rfl
  have N0 := Fr.nil n0
  have K0 := Keep.refl h0 [a1, s1, s2]
  have pre0 : ∀ t, Steps p.tables e below (s₁.setTop (mkF m 0 #[.val (.ref a1), .val (.ref a2), .val (.int (1 : Int32)), .val (.int (7 : Int32)), .unset, .unset] [])) t → Steps p.tables e below (s₁.setTop (entryFrame m #[(.ref a1), (.ref a2), (.int (1 : Int32)), (.int (7 : Int32))] 6)) t := fun t k => castTop (ef_5_1_7 m a1 a2) k
  obtain ⟨T1, h1, X1, e1, W1, st1⟩ := putF X0 hx hZ hown (host := "") (Or.inl (hw _ (List.mem_of_getElem? (i := 28) rfl))) Via.refl e0 F_line E_a1 (Or.inl (hw _ (List.mem_of_getElem? (i := 29) rfl))) (hw _ (List.mem_of_getElem? (i := 10) rfl)) (ty := (.array .byte)) (by decide) rfl rfl (g := (mkF m 2 #[vR a1, vR a2, vI 1, vI 7, .unset, .unset] [iR a2, iR a1])) rfl rfl (hb hby d5_2)
  have Fw1 := F_line.same W1
  have K1 : Keep h0 h1 [a1, s1, s2] := K0.wr W1 (Or.inl (List.mem_of_getElem? (i := 0) rfl))
  have N1 := Fr.snoc X1 N0 g_a1
  have fk2 := (F_count.other W1 (Or.inr (slot_ne (Or.inl (hw _ (List.mem_of_getElem? (i := 31) rfl))) (Or.inl (hw _ (List.mem_of_getElem? (i := 29) rfl))) (by decide) (t := .int) (t' := (.array .byte)) (by decide) (by decide))))
  have fk3 := (E_a1.wr W1)
  obtain ⟨T4, h4, X4, e4, W4, st4⟩ := putF X1 hx hZ hown (host := "") (Or.inl (hw _ (List.mem_of_getElem? (i := 30) rfl))) Via.refl e1 fk2 fk3 (Or.inl (hw _ (List.mem_of_getElem? (i := 31) rfl))) (hw _ (List.mem_of_getElem? (i := 10) rfl)) (ty := .int) (by decide) rfl rfl (g := (mkF m 7 #[vR a1, vR a2, vI 1, vI 7, .unset, .unset] [iI 0, iR a1])) rfl rfl (hb hby d5_7)
  have Fw4 := fk2.same W4
  have K4 : Keep h0 h4 [a1, s1, s2] := K1.wr W4 (Or.inl (List.mem_of_getElem? (i := 0) rfl))
  have N4 := Fr.snoc X4 N1 g_a1
  have fk5 := ((V_l.other W1 (Ne.symm ne_a1_a2)).other W4 (Ne.symm ne_a1_a2))
  obtain ⟨cl6, Ar6, q6, S6, M6, H6, G6⟩ := id fk5
  have hin7 : ¬ ((1 : Int32) < 0 ∨ cl6.slots.size ≤ ((1 : Int32)).toNatClampNeg) := inb_of S6 ⟨by decide, by decide⟩
  have hat8 : cl6.slots[((1 : Int32)).toNatClampNeg]? = some (.int x1) := Has.at H6 hin7 rfl
  obtain ⟨_, _, ⟨T9, L9, k9, n9⟩, -, X9, ⟨Lc9, hQ9, l9, y9, z9⟩, st9⟩ := callSN X4 hx (y := (⟨"com/example/tidemine/tidemine/TextFormat", "isSeparator", "(B)Z"⟩ : MethodName)) hown (Cond.methodLinkNest_wide hZ (hw _ (List.mem_of_getElem? (i := 32) rfl))) (mvT hZ (hw _ (List.mem_of_getElem? (i := 33) rfl))) (mvT hZ (hw _ (List.mem_of_getElem? (i := 34) rfl))) (mvT hZ (hw _ (List.mem_of_getElem? (i := 35) rfl))) (by decide) (backOf (W := 0) (rm6 l Z a0 hw [] x1 h4 ) hZ (hw _ (List.mem_of_getElem? (i := 35) rfl)) (hw _ (List.mem_of_getElem? (i := 34) rfl)) (by decide) (by decide)) (g := (mkF m 29 #[vR a1, vR a2, vI 1, vI 7, vI 1, .unset] [iI x1])) rfl (by rw [hml]; rfl) (argsL := [(.int x1)]) (rest := []) (lenOf pd_0 rfl) rfl (by show 2 * 0 + _ ≤ _; exact Nat.le_of_eq rfl) (hb hby d5_29) (fun _ _ => ⟨rfl, e4, (by decide : 0 + 0 ≤ _), (by decide : 0 + 0 ≤ _)⟩)
  dsimp only [Pt.U, Pt.locs, Pt.cells, Pt.slots] at X9 l9 y9 z9 st9 hQ9
  subst l9 y9 z9
  obtain ⟨rfl, rfl, e9⟩ := hQ9
  try rw [List.append_nil] at X9
  have hin10 : ¬ ((1 : Int32) < 0 ∨ cl6.slots.size ≤ ((1 : Int32)).toNatClampNeg) := inb_of S6 ⟨by decide, by decide⟩
  have hat11 : cl6.slots[((1 : Int32)).toNatClampNeg]? = some (.int x1) := Has.at H6 hin10 rfl
  obtain ⟨_, _, ⟨T12, L12, k12, n12⟩, -, X12, ⟨Lc12, hQ12, l12, y12, z12⟩, st12⟩ := callSN X9 hx (y := (⟨"com/example/tidemine/tidemine/TextFormat", "isSeparator", "(B)Z"⟩ : MethodName)) hown (Cond.methodLinkNest_wide hZ (hw _ (List.mem_of_getElem? (i := 32) rfl))) (mvT hZ (hw _ (List.mem_of_getElem? (i := 33) rfl))) (mvT hZ (hw _ (List.mem_of_getElem? (i := 34) rfl))) (mvT hZ (hw _ (List.mem_of_getElem? (i := 35) rfl))) (by decide) (backOf (W := 0) (rm6 l Z a0 hw [] x1 h4 ) hZ (hw _ (List.mem_of_getElem? (i := 35) rfl)) (hw _ (List.mem_of_getElem? (i := 34) rfl)) (by decide) (by decide)) (g := (mkF m 55 #[vR a1, vR a2, vI 1, vI 7, vI 1, vI 1] [iI x1])) rfl (by rw [hml]; rfl) (argsL := [(.int x1)]) (rest := []) (lenOf pd_0 rfl) rfl (by show 2 * 0 + _ ≤ _; exact Nat.le_of_eq rfl) (hb hby d5_55) (fun _ _ => ⟨rfl, e9, (by decide : 0 + 0 ≤ _), (by decide : 0 + 0 ≤ _)⟩)
  dsimp only [Pt.U, Pt.locs, Pt.cells, Pt.slots] at X12 l12 y12 z12 st12 hQ12
  subst l12 y12 z12
  obtain ⟨rfl, rfl, e12⟩ := hQ12
  try rw [List.append_nil] at X12
  have hin13 : ¬ ((2 : Int32) < 0 ∨ cl6.slots.size ≤ ((2 : Int32)).toNatClampNeg) := inb_of S6 ⟨by decide, by decide⟩
  have hat14 : cl6.slots[((2 : Int32)).toNatClampNeg]? = some (.int x2) := Has.at H6 hin13 rfl
  obtain ⟨_, _, ⟨T15, L15, k15, n15⟩, -, X15, ⟨Lc15, hQ15, l15, y15, z15⟩, st15⟩ := callSN X12 hx (y := (⟨"com/example/tidemine/tidemine/TextFormat", "isSeparator", "(B)Z"⟩ : MethodName)) hown (Cond.methodLinkNest_wide hZ (hw _ (List.mem_of_getElem? (i := 32) rfl))) (mvT hZ (hw _ (List.mem_of_getElem? (i := 33) rfl))) (mvT hZ (hw _ (List.mem_of_getElem? (i := 34) rfl))) (mvT hZ (hw _ (List.mem_of_getElem? (i := 35) rfl))) (by decide) (backOf (W := 0) (rm6 l Z a0 hw [] x2 h4 ) hZ (hw _ (List.mem_of_getElem? (i := 35) rfl)) (hw _ (List.mem_of_getElem? (i := 34) rfl)) (by decide) (by decide)) (g := (mkF m 55 #[vR a1, vR a2, vI 1, vI 7, vI 2, vI 1] [iI x2])) rfl (by rw [hml]; rfl) (argsL := [(.int x2)]) (rest := []) (lenOf pd_0 rfl) rfl (by show 2 * 0 + _ ≤ _; exact Nat.le_of_eq rfl) (hb hby d5_55) (fun _ _ => ⟨rfl, e12, (by decide : 0 + 0 ≤ _), (by decide : 0 + 0 ≤ _)⟩)
  dsimp only [Pt.U, Pt.locs, Pt.cells, Pt.slots] at X15 l15 y15 z15 st15 hQ15
  subst l15 y15 z15
  obtain ⟨rfl, rfl, e15⟩ := hQ15
  try rw [List.append_nil] at X15
  have hin16 : ¬ ((3 : Int32) < 0 ∨ cl6.slots.size ≤ ((3 : Int32)).toNatClampNeg) := inb_of S6 ⟨by decide, by decide⟩
  have hat17 : cl6.slots[((3 : Int32)).toNatClampNeg]? = some (.int x3) := Has.at H6 hin16 rfl
  obtain ⟨_, _, ⟨T18, L18, k18, n18⟩, -, X18, ⟨Lc18, hQ18, l18, y18, z18⟩, st18⟩ := callSN X15 hx (y := (⟨"com/example/tidemine/tidemine/TextFormat", "isSeparator", "(B)Z"⟩ : MethodName)) hown (Cond.methodLinkNest_wide hZ (hw _ (List.mem_of_getElem? (i := 32) rfl))) (mvT hZ (hw _ (List.mem_of_getElem? (i := 33) rfl))) (mvT hZ (hw _ (List.mem_of_getElem? (i := 34) rfl))) (mvT hZ (hw _ (List.mem_of_getElem? (i := 35) rfl))) (by decide) (backOf (W := 0) (rm6 l Z a0 hw [] x3 h4 ) hZ (hw _ (List.mem_of_getElem? (i := 35) rfl)) (hw _ (List.mem_of_getElem? (i := 34) rfl)) (by decide) (by decide)) (g := (mkF m 55 #[vR a1, vR a2, vI 1, vI 7, vI 3, vI 1] [iI x3])) rfl (by rw [hml]; rfl) (argsL := [(.int x3)]) (rest := []) (lenOf pd_0 rfl) rfl (by show 2 * 0 + _ ≤ _; exact Nat.le_of_eq rfl) (hb hby d5_55) (fun _ _ => ⟨rfl, e15, (by decide : 0 + 0 ≤ _), (by decide : 0 + 0 ≤ _)⟩)
  dsimp only [Pt.U, Pt.locs, Pt.cells, Pt.slots] at X18 l18 y18 z18 st18 hQ18
  subst l18 y18 z18
  obtain ⟨rfl, rfl, e18⟩ := hQ18
  try rw [List.append_nil] at X18
  obtain ⟨T19, X19, e19, st19⟩ := getF X18 hx hZ hown (host := "") (Or.inl (hw _ (List.mem_of_getElem? (i := 30) rfl))) Via.refl e18 Fw4 (g := (mkF m 75 #[vR a1, vR a2, vI 1, vI 7, vI 3, vI 1] [iR a1])) rfl rfl (hb hby d5_75)
  have fk20 := ((F_starts.other W1 (Or.inr (slot_ne (Or.inl (hw _ (List.mem_of_getElem? (i := 20) rfl))) (Or.inl (hw _ (List.mem_of_getElem? (i := 29) rfl))) (by decide) (t := (.array .int)) (t' := (.array .byte)) (by decide) (by decide)))).other W4 (Or.inr (slot_ne (Or.inl (hw _ (List.mem_of_getElem? (i := 20) rfl))) (Or.inl (hw _ (List.mem_of_getElem? (i := 31) rfl))) (by decide) (t := (.array .int)) (t' := .int) (by decide) (by decide))))
  obtain ⟨T21, X21, e21, st21⟩ := getF X19 hx hZ hown (host := "") (Or.inl (hw _ (List.mem_of_getElem? (i := 19) rfl))) Via.refl e19 fk20 (g := (mkF m 79 #[vR a1, vR a2, vI 1, vI 7, vI 3, vI 1] [iR a1, iI 0])) rfl rfl (hb hby d5_79)
  have fk22 := ((V_1.other W1 (Ne.symm ne_a1_s1)).other W4 (Ne.symm ne_a1_s1))
  obtain ⟨cl23, Ar23, q23, S23, M23, H23, G23⟩ := id fk22
  obtain ⟨T24, X24, e24, st24⟩ := getF X21 hx hZ hown (host := "") (Or.inl (hw _ (List.mem_of_getElem? (i := 19) rfl))) Via.refl e21 fk20 (g := (mkF m 121 #[vR a1, vR a2, vI 1, vI 7, vI 3, vI 1] [iR a1])) rfl rfl (hb hby d5_121)
  obtain ⟨T25, X25, e25, st25⟩ := getF X24 hx hZ hown (host := "") (Or.inl (hw _ (List.mem_of_getElem? (i := 30) rfl))) Via.refl e24 Fw4 (g := (mkF m 125 #[vR a1, vR a2, vI 1, vI 7, vI 3, vI 1] [iR a1, iR s1])) rfl rfl (hb hby d5_125)
  have hin26 : ¬ ((0 : Int32) < 0 ∨ cl23.slots.size ≤ ((0 : Int32)).toNatClampNeg) := inb_of S23 ⟨by decide, by decide⟩
  obtain ⟨T27, h27, X27, e27, W27, st27⟩ := stI X25 hx hZ e25 Ar23 (j := (0 : Int32)) hin26 (g := (mkF m 130 #[vR a1, vR a2, vI 1, vI 7, vI 3, vI 1] [iI 1, iI 0, iR s1])) rfl rfl (hb hby d5_130)
  have V27 : Arv Z h27 s1 k1 .int (16 : Int32) [(.int (1 : Int32)), (.int (0 : Int32)), (.int (0 : Int32)), (.int (0 : Int32)), (.int (0 : Int32)), (.int (0 : Int32)), (.int (0 : Int32)), (.int (0 : Int32)), (.int (0 : Int32)), (.int (0 : Int32)), (.int (0 : Int32)), (.int (0 : Int32)), (.int (0 : Int32)), (.int (0 : Int32)), (.int (0 : Int32)), (.int (0 : Int32))] (.int (0 : Int32)) := Arv.set Ar23 q23 S23 M23 H23 G23 rfl W27 0 rfl (Nat.le_of_ble_eq_true rfl)
  have K27 : Keep h0 h27 [a1, s1, s2] := K4.wr W27 (Or.inl (List.mem_of_getElem? (i := 1) rfl))
  have N27 := Fr.snoc X27 N4 g_s1
  have fk28 := (((F_ends.other W1 (Or.inr (slot_ne (Or.inl (hw _ (List.mem_of_getElem? (i := 22) rfl))) (Or.inl (hw _ (List.mem_of_getElem? (i := 29) rfl))) (by decide) (t := (.array .int)) (t' := (.array .byte)) (by decide) (by decide)))).other W4 (Or.inr (slot_ne (Or.inl (hw _ (List.mem_of_getElem? (i := 22) rfl))) (Or.inl (hw _ (List.mem_of_getElem? (i := 31) rfl))) (by decide) (t := (.array .int)) (t' := .int) (by decide) (by decide)))).other W27 (Or.inl ne_a1_s1))
  obtain ⟨T29, X29, e29, st29⟩ := getF X27 hx hZ hown (host := "") (Or.inl (hw _ (List.mem_of_getElem? (i := 21) rfl))) Via.refl e27 fk28 (g := (mkF m 132 #[vR a1, vR a2, vI 1, vI 7, vI 3, vI 1] [iR a1])) rfl rfl (hb hby d5_132)
  have fk30 := (Fw4.other W27 (Or.inl ne_a1_s1))
  obtain ⟨T31, X31, e31, st31⟩ := getF X29 hx hZ hown (host := "") (Or.inl (hw _ (List.mem_of_getElem? (i := 30) rfl))) Via.refl e29 fk30 (g := (mkF m 136 #[vR a1, vR a2, vI 1, vI 7, vI 3, vI 1] [iR a1, iR s2])) rfl rfl (hb hby d5_136)
  have fk32 := (((V_2.other W1 (Ne.symm ne_a1_s2)).other W4 (Ne.symm ne_a1_s2)).other W27 (Ne.symm ne_s1_s2))
  obtain ⟨cl33, Ar33, q33, S33, M33, H33, G33⟩ := id fk32
  have hin34 : ¬ ((0 : Int32) < 0 ∨ cl33.slots.size ≤ ((0 : Int32)).toNatClampNeg) := inb_of S33 ⟨by decide, by decide⟩
  obtain ⟨T35, h35, X35, e35, W35, st35⟩ := stI X31 hx hZ e31 Ar33 (j := (0 : Int32)) hin34 (g := (mkF m 141 #[vR a1, vR a2, vI 1, vI 7, vI 3, vI 1] [iI 3, iI 0, iR s2])) rfl rfl (hb hby d5_141)
  have V35 : Arv Z h35 s2 k2 .int (16 : Int32) [(.int (3 : Int32)), (.int (0 : Int32)), (.int (0 : Int32)), (.int (0 : Int32)), (.int (0 : Int32)), (.int (0 : Int32)), (.int (0 : Int32)), (.int (0 : Int32)), (.int (0 : Int32)), (.int (0 : Int32)), (.int (0 : Int32)), (.int (0 : Int32)), (.int (0 : Int32)), (.int (0 : Int32)), (.int (0 : Int32)), (.int (0 : Int32))] (.int (0 : Int32)) := Arv.set Ar33 q33 S33 M33 H33 G33 rfl W35 0 rfl (Nat.le_of_ble_eq_true rfl)
  have K35 : Keep h0 h35 [a1, s1, s2] := K27.wr W35 (Or.inl (List.mem_of_getElem? (i := 2) rfl))
  have N35 := Fr.snoc X35 N27 g_s2
  have fk36 := (fk30.other W35 (Or.inl ne_a1_s2))
  obtain ⟨T37, X37, e37, st37⟩ := getF X35 hx hZ hown (host := "") (Or.inl (hw _ (List.mem_of_getElem? (i := 30) rfl))) Via.refl e35 fk36 (g := (mkF m 144 #[vR a1, vR a2, vI 1, vI 7, vI 3, vI 1] [iR a1, iR a1])) rfl rfl (hb hby d5_144)
  have fk38 := (((fk3.wr W4).wr W27).wr W35)
  obtain ⟨T39, h39, X39, e39, W39, st39⟩ := putF X37 hx hZ hown (host := "") (Or.inl (hw _ (List.mem_of_getElem? (i := 30) rfl))) Via.refl e37 fk36 fk38 (Or.inl (hw _ (List.mem_of_getElem? (i := 31) rfl))) (hw _ (List.mem_of_getElem? (i := 10) rfl)) (ty := .int) (by decide) rfl rfl (g := (mkF m 149 #[vR a1, vR a2, vI 1, vI 7, vI 3, vI 1] [iI 1, iR a1])) rfl rfl (hb hby d5_149)
  have Fw39 := fk36.same W39
  have K39 : Keep h0 h39 [a1, s1, s2] := K35.wr W39 (Or.inl (List.mem_of_getElem? (i := 0) rfl))
  have N39 := Fr.snoc X39 N35 g_a1
  have fk40 := (((fk5.other W27 ne_a2_s1).other W35 ne_a2_s2).other W39 (Ne.symm ne_a1_a2))
  obtain ⟨cl41, Ar41, q41, S41, M41, H41, G41⟩ := id fk40
  have hin42 : ¬ ((3 : Int32) < 0 ∨ cl41.slots.size ≤ ((3 : Int32)).toNatClampNeg) := inb_of S41 ⟨by decide, by decide⟩
  have hat43 : cl41.slots[((3 : Int32)).toNatClampNeg]? = some (.int x3) := Has.at H41 hin42 rfl
  obtain ⟨_, _, ⟨T44, L44, k44, n44⟩, -, X44, ⟨Lc44, hQ44, l44, y44, z44⟩, st44⟩ := callSN X39 hx (y := (⟨"com/example/tidemine/tidemine/TextFormat", "isSeparator", "(B)Z"⟩ : MethodName)) hown (Cond.methodLinkNest_wide hZ (hw _ (List.mem_of_getElem? (i := 32) rfl))) (mvT hZ (hw _ (List.mem_of_getElem? (i := 33) rfl))) (mvT hZ (hw _ (List.mem_of_getElem? (i := 34) rfl))) (mvT hZ (hw _ (List.mem_of_getElem? (i := 35) rfl))) (by decide) (backOf (W := 0) (rm6 l Z a0 hw [] x3 h39 ) hZ (hw _ (List.mem_of_getElem? (i := 35) rfl)) (hw _ (List.mem_of_getElem? (i := 34) rfl)) (by decide) (by decide)) (g := (mkF m 29 #[vR a1, vR a2, vI 1, vI 7, vI 3, vI 1] [iI x3])) rfl (by rw [hml]; rfl) (argsL := [(.int x3)]) (rest := []) (lenOf pd_0 rfl) rfl (by show 2 * 0 + _ ≤ _; exact Nat.le_of_eq rfl) (hb hby d5_29) (fun _ _ => ⟨rfl, e39, (by decide : 0 + 0 ≤ _), (by decide : 0 + 0 ≤ _)⟩)
  dsimp only [Pt.U, Pt.locs, Pt.cells, Pt.slots] at X44 l44 y44 z44 st44 hQ44
  subst l44 y44 z44
  obtain ⟨rfl, rfl, e44⟩ := hQ44
  try rw [List.append_nil] at X44
  have hin45 : ¬ ((4 : Int32) < 0 ∨ cl41.slots.size ≤ ((4 : Int32)).toNatClampNeg) := inb_of S41 ⟨by decide, by decide⟩
  have hat46 : cl41.slots[((4 : Int32)).toNatClampNeg]? = some (.int x4) := Has.at H41 hin45 rfl
  obtain ⟨_, _, ⟨T47, L47, k47, n47⟩, -, X47, ⟨Lc47, hQ47, l47, y47, z47⟩, st47⟩ := callSN X44 hx (y := (⟨"com/example/tidemine/tidemine/TextFormat", "isSeparator", "(B)Z"⟩ : MethodName)) hown (Cond.methodLinkNest_wide hZ (hw _ (List.mem_of_getElem? (i := 32) rfl))) (mvT hZ (hw _ (List.mem_of_getElem? (i := 33) rfl))) (mvT hZ (hw _ (List.mem_of_getElem? (i := 34) rfl))) (mvT hZ (hw _ (List.mem_of_getElem? (i := 35) rfl))) (by decide) (backOf (W := 0) (rm6 l Z a0 hw [] x4 h39 ) hZ (hw _ (List.mem_of_getElem? (i := 35) rfl)) (hw _ (List.mem_of_getElem? (i := 34) rfl)) (by decide) (by decide)) (g := (mkF m 29 #[vR a1, vR a2, vI 1, vI 7, vI 4, vI 1] [iI x4])) rfl (by rw [hml]; rfl) (argsL := [(.int x4)]) (rest := []) (lenOf pd_0 rfl) rfl (by show 2 * 0 + _ ≤ _; exact Nat.le_of_eq rfl) (hb hby d5_29) (fun _ _ => ⟨rfl, e44, (by decide : 0 + 0 ≤ _), (by decide : 0 + 0 ≤ _)⟩)
  dsimp only [Pt.U, Pt.locs, Pt.cells, Pt.slots] at X47 l47 y47 z47 st47 hQ47
  subst l47 y47 z47
  obtain ⟨rfl, rfl, e47⟩ := hQ47
  try rw [List.append_nil] at X47
  have hin48 : ¬ ((4 : Int32) < 0 ∨ cl41.slots.size ≤ ((4 : Int32)).toNatClampNeg) := inb_of S41 ⟨by decide, by decide⟩
  have hat49 : cl41.slots[((4 : Int32)).toNatClampNeg]? = some (.int x4) := Has.at H41 hin48 rfl
  obtain ⟨_, _, ⟨T50, L50, k50, n50⟩, -, X50, ⟨Lc50, hQ50, l50, y50, z50⟩, st50⟩ := callSN X47 hx (y := (⟨"com/example/tidemine/tidemine/TextFormat", "isSeparator", "(B)Z"⟩ : MethodName)) hown (Cond.methodLinkNest_wide hZ (hw _ (List.mem_of_getElem? (i := 32) rfl))) (mvT hZ (hw _ (List.mem_of_getElem? (i := 33) rfl))) (mvT hZ (hw _ (List.mem_of_getElem? (i := 34) rfl))) (mvT hZ (hw _ (List.mem_of_getElem? (i := 35) rfl))) (by decide) (backOf (W := 0) (rm6 l Z a0 hw [] x4 h39 ) hZ (hw _ (List.mem_of_getElem? (i := 35) rfl)) (hw _ (List.mem_of_getElem? (i := 34) rfl)) (by decide) (by decide)) (g := (mkF m 55 #[vR a1, vR a2, vI 1, vI 7, vI 4, vI 4] [iI x4])) rfl (by rw [hml]; rfl) (argsL := [(.int x4)]) (rest := []) (lenOf pd_0 rfl) rfl (by show 2 * 0 + _ ≤ _; exact Nat.le_of_eq rfl) (hb hby d5_55) (fun _ _ => ⟨rfl, e47, (by decide : 0 + 0 ≤ _), (by decide : 0 + 0 ≤ _)⟩)
  dsimp only [Pt.U, Pt.locs, Pt.cells, Pt.slots] at X50 l50 y50 z50 st50 hQ50
  subst l50 y50 z50
  obtain ⟨rfl, rfl, e50⟩ := hQ50
  try rw [List.append_nil] at X50
  have hin51 : ¬ ((5 : Int32) < 0 ∨ cl41.slots.size ≤ ((5 : Int32)).toNatClampNeg) := inb_of S41 ⟨by decide, by decide⟩
  have hat52 : cl41.slots[((5 : Int32)).toNatClampNeg]? = some (.int x5) := Has.at H41 hin51 rfl
  obtain ⟨_, _, ⟨T53, L53, k53, n53⟩, -, X53, ⟨Lc53, hQ53, l53, y53, z53⟩, st53⟩ := callSN X50 hx (y := (⟨"com/example/tidemine/tidemine/TextFormat", "isSeparator", "(B)Z"⟩ : MethodName)) hown (Cond.methodLinkNest_wide hZ (hw _ (List.mem_of_getElem? (i := 32) rfl))) (mvT hZ (hw _ (List.mem_of_getElem? (i := 33) rfl))) (mvT hZ (hw _ (List.mem_of_getElem? (i := 34) rfl))) (mvT hZ (hw _ (List.mem_of_getElem? (i := 35) rfl))) (by decide) (backOf (W := 0) (rm6 l Z a0 hw [] x5 h39 ) hZ (hw _ (List.mem_of_getElem? (i := 35) rfl)) (hw _ (List.mem_of_getElem? (i := 34) rfl)) (by decide) (by decide)) (g := (mkF m 55 #[vR a1, vR a2, vI 1, vI 7, vI 5, vI 4] [iI x5])) rfl (by rw [hml]; rfl) (argsL := [(.int x5)]) (rest := []) (lenOf pd_0 rfl) rfl (by show 2 * 0 + _ ≤ _; exact Nat.le_of_eq rfl) (hb hby d5_55) (fun _ _ => ⟨rfl, e50, (by decide : 0 + 0 ≤ _), (by decide : 0 + 0 ≤ _)⟩)
  dsimp only [Pt.U, Pt.locs, Pt.cells, Pt.slots] at X53 l53 y53 z53 st53 hQ53
  subst l53 y53 z53
  obtain ⟨rfl, rfl, e53⟩ := hQ53
  try rw [List.append_nil] at X53
  have hin54 : ¬ ((6 : Int32) < 0 ∨ cl41.slots.size ≤ ((6 : Int32)).toNatClampNeg) := inb_of S41 ⟨by decide, by decide⟩
  have hat55 : cl41.slots[((6 : Int32)).toNatClampNeg]? = some (.int x6) := Has.at H41 hin54 rfl
  obtain ⟨_, _, ⟨T56, L56, k56, n56⟩, -, X56, ⟨Lc56, hQ56, l56, y56, z56⟩, st56⟩ := callSN X53 hx (y := (⟨"com/example/tidemine/tidemine/TextFormat", "isSeparator", "(B)Z"⟩ : MethodName)) hown (Cond.methodLinkNest_wide hZ (hw _ (List.mem_of_getElem? (i := 32) rfl))) (mvT hZ (hw _ (List.mem_of_getElem? (i := 33) rfl))) (mvT hZ (hw _ (List.mem_of_getElem? (i := 34) rfl))) (mvT hZ (hw _ (List.mem_of_getElem? (i := 35) rfl))) (by decide) (backOf (W := 0) (rm6 l Z a0 hw [] x6 h39 ) hZ (hw _ (List.mem_of_getElem? (i := 35) rfl)) (hw _ (List.mem_of_getElem? (i := 34) rfl)) (by decide) (by decide)) (g := (mkF m 55 #[vR a1, vR a2, vI 1, vI 7, vI 6, vI 4] [iI x6])) rfl (by rw [hml]; rfl) (argsL := [(.int x6)]) (rest := []) (lenOf pd_0 rfl) rfl (by show 2 * 0 + _ ≤ _; exact Nat.le_of_eq rfl) (hb hby d5_55) (fun _ _ => ⟨rfl, e53, (by decide : 0 + 0 ≤ _), (by decide : 0 + 0 ≤ _)⟩)
  dsimp only [Pt.U, Pt.locs, Pt.cells, Pt.slots] at X56 l56 y56 z56 st56 hQ56
  subst l56 y56 z56
  obtain ⟨rfl, rfl, e56⟩ := hQ56
  try rw [List.append_nil] at X56
  obtain ⟨T57, X57, e57, st57⟩ := getF X56 hx hZ hown (host := "") (Or.inl (hw _ (List.mem_of_getElem? (i := 30) rfl))) Via.refl e56 Fw39 (g := (mkF m 75 #[vR a1, vR a2, vI 1, vI 7, vI 7, vI 4] [iR a1])) rfl rfl (hb hby d5_75)
  have fk58 := (((fk20.other W27 (Or.inl ne_a1_s1)).other W35 (Or.inl ne_a1_s2)).other W39 (Or.inr (slot_ne (Or.inl (hw _ (List.mem_of_getElem? (i := 20) rfl))) (Or.inl (hw _ (List.mem_of_getElem? (i := 31) rfl))) (by decide) (t := (.array .int)) (t' := .int) (by decide) (by decide))))
  obtain ⟨T59, X59, e59, st59⟩ := getF X57 hx hZ hown (host := "") (Or.inl (hw _ (List.mem_of_getElem? (i := 19) rfl))) Via.refl e57 fk58 (g := (mkF m 79 #[vR a1, vR a2, vI 1, vI 7, vI 7, vI 4] [iR a1, iI 1])) rfl rfl (hb hby d5_79)
  have fk60 := ((V27.other W35 ne_s1_s2).other W39 (Ne.symm ne_a1_s1))
  obtain ⟨cl61, Ar61, q61, S61, M61, H61, G61⟩ := id fk60
  obtain ⟨T62, X62, e62, st62⟩ := getF X59 hx hZ hown (host := "") (Or.inl (hw _ (List.mem_of_getElem? (i := 19) rfl))) Via.refl e59 fk58 (g := (mkF m 121 #[vR a1, vR a2, vI 1, vI 7, vI 7, vI 4] [iR a1])) rfl rfl (hb hby d5_121)
  obtain ⟨T63, X63, e63, st63⟩ := getF X62 hx hZ hown (host := "") (Or.inl (hw _ (List.mem_of_getElem? (i := 30) rfl))) Via.refl e62 Fw39 (g := (mkF m 125 #[vR a1, vR a2, vI 1, vI 7, vI 7, vI 4] [iR a1, iR s1])) rfl rfl (hb hby d5_125)
  have hin64 : ¬ ((1 : Int32) < 0 ∨ cl61.slots.size ≤ ((1 : Int32)).toNatClampNeg) := inb_of S61 ⟨by decide, by decide⟩
  obtain ⟨T65, h65, X65, e65, W65, st65⟩ := stI X63 hx hZ e63 Ar61 (j := (1 : Int32)) hin64 (g := (mkF m 130 #[vR a1, vR a2, vI 1, vI 7, vI 7, vI 4] [iI 4, iI 1, iR s1])) rfl rfl (hb hby d5_130)
  have V65 : Arv Z h65 s1 k1 .int (16 : Int32) [(.int (1 : Int32)), (.int (4 : Int32)), (.int (0 : Int32)), (.int (0 : Int32)), (.int (0 : Int32)), (.int (0 : Int32)), (.int (0 : Int32)), (.int (0 : Int32)), (.int (0 : Int32)), (.int (0 : Int32)), (.int (0 : Int32)), (.int (0 : Int32)), (.int (0 : Int32)), (.int (0 : Int32)), (.int (0 : Int32)), (.int (0 : Int32))] (.int (0 : Int32)) := Arv.set Ar61 q61 S61 M61 H61 G61 rfl W65 1 rfl (Nat.le_of_ble_eq_true rfl)
  have K65 : Keep h0 h65 [a1, s1, s2] := K39.wr W65 (Or.inl (List.mem_of_getElem? (i := 1) rfl))
  have N65 := Fr.snoc X65 N39 g_s1
  have fk66 := (((fk28.other W35 (Or.inl ne_a1_s2)).other W39 (Or.inr (slot_ne (Or.inl (hw _ (List.mem_of_getElem? (i := 22) rfl))) (Or.inl (hw _ (List.mem_of_getElem? (i := 31) rfl))) (by decide) (t := (.array .int)) (t' := .int) (by decide) (by decide)))).other W65 (Or.inl ne_a1_s1))
  obtain ⟨T67, X67, e67, st67⟩ := getF X65 hx hZ hown (host := "") (Or.inl (hw _ (List.mem_of_getElem? (i := 21) rfl))) Via.refl e65 fk66 (g := (mkF m 132 #[vR a1, vR a2, vI 1, vI 7, vI 7, vI 4] [iR a1])) rfl rfl (hb hby d5_132)
  have fk68 := (Fw39.other W65 (Or.inl ne_a1_s1))
  obtain ⟨T69, X69, e69, st69⟩ := getF X67 hx hZ hown (host := "") (Or.inl (hw _ (List.mem_of_getElem? (i := 30) rfl))) Via.refl e67 fk68 (g := (mkF m 136 #[vR a1, vR a2, vI 1, vI 7, vI 7, vI 4] [iR a1, iR s2])) rfl rfl (hb hby d5_136)
  have fk70 := ((V35.other W39 (Ne.symm ne_a1_s2)).other W65 (Ne.symm ne_s1_s2))
  obtain ⟨cl71, Ar71, q71, S71, M71, H71, G71⟩ := id fk70
  have hin72 : ¬ ((1 : Int32) < 0 ∨ cl71.slots.size ≤ ((1 : Int32)).toNatClampNeg) := inb_of S71 ⟨by decide, by decide⟩
  obtain ⟨T73, h73, X73, e73, W73, st73⟩ := stI X69 hx hZ e69 Ar71 (j := (1 : Int32)) hin72 (g := (mkF m 141 #[vR a1, vR a2, vI 1, vI 7, vI 7, vI 4] [iI 7, iI 1, iR s2])) rfl rfl (hb hby d5_141)
  have V73 : Arv Z h73 s2 k2 .int (16 : Int32) [(.int (3 : Int32)), (.int (7 : Int32)), (.int (0 : Int32)), (.int (0 : Int32)), (.int (0 : Int32)), (.int (0 : Int32)), (.int (0 : Int32)), (.int (0 : Int32)), (.int (0 : Int32)), (.int (0 : Int32)), (.int (0 : Int32)), (.int (0 : Int32)), (.int (0 : Int32)), (.int (0 : Int32)), (.int (0 : Int32)), (.int (0 : Int32))] (.int (0 : Int32)) := Arv.set Ar71 q71 S71 M71 H71 G71 rfl W73 1 rfl (Nat.le_of_ble_eq_true rfl)
  have K73 : Keep h0 h73 [a1, s1, s2] := K65.wr W73 (Or.inl (List.mem_of_getElem? (i := 2) rfl))
  have N73 := Fr.snoc X73 N65 g_s2
  have fk74 := (fk68.other W73 (Or.inl ne_a1_s2))
  obtain ⟨T75, X75, e75, st75⟩ := getF X73 hx hZ hown (host := "") (Or.inl (hw _ (List.mem_of_getElem? (i := 30) rfl))) Via.refl e73 fk74 (g := (mkF m 144 #[vR a1, vR a2, vI 1, vI 7, vI 7, vI 4] [iR a1, iR a1])) rfl rfl (hb hby d5_144)
  have fk76 := (((fk38.wr W39).wr W65).wr W73)
  obtain ⟨T77, h77, X77, e77, W77, st77⟩ := putF X75 hx hZ hown (host := "") (Or.inl (hw _ (List.mem_of_getElem? (i := 30) rfl))) Via.refl e75 fk74 fk76 (Or.inl (hw _ (List.mem_of_getElem? (i := 31) rfl))) (hw _ (List.mem_of_getElem? (i := 10) rfl)) (ty := .int) (by decide) rfl rfl (g := (mkF m 149 #[vR a1, vR a2, vI 1, vI 7, vI 7, vI 4] [iI 2, iR a1])) rfl rfl (hb hby d5_149)
  have Fw77 := fk74.same W77
  have K77 : Keep h0 h77 [a1, s1, s2] := K73.wr W77 (Or.inl (List.mem_of_getElem? (i := 0) rfl))
  have N77 := Fr.snoc X77 N73 g_a1
  obtain ⟨fs, hr, hrun, hended, hW, hsame⟩ := X77.leave (v := none) (fun _ => rfl)
  have fk78 := (fk76.wr W77)
  have fk79 := (((((((Fw1.other W4 (Or.inr (slot_ne (Or.inl (hw _ (List.mem_of_getElem? (i := 29) rfl))) (Or.inl (hw _ (List.mem_of_getElem? (i := 31) rfl))) (by decide) (t := (.array .byte)) (t' := .int) (by decide) (by decide)))).other W27 (Or.inl ne_a1_s1)).other W35 (Or.inl ne_a1_s2)).other W39 (Or.inr (slot_ne (Or.inl (hw _ (List.mem_of_getElem? (i := 29) rfl))) (Or.inl (hw _ (List.mem_of_getElem? (i := 31) rfl))) (by decide) (t := (.array .byte)) (t' := .int) (by decide) (by decide)))).other W65 (Or.inl ne_a1_s1)).other W73 (Or.inl ne_a1_s2)).other W77 (Or.inr (slot_ne (Or.inl (hw _ (List.mem_of_getElem? (i := 29) rfl))) (Or.inl (hw _ (List.mem_of_getElem? (i := 31) rfl))) (by decide) (t := (.array .byte)) (t' := .int) (by decide) (by decide))))
  have fk80 := (((fk58.other W65 (Or.inl ne_a1_s1)).other W73 (Or.inl ne_a1_s2)).other W77 (Or.inr (slot_ne (Or.inl (hw _ (List.mem_of_getElem? (i := 20) rfl))) (Or.inl (hw _ (List.mem_of_getElem? (i := 31) rfl))) (by decide) (t := (.array .int)) (t' := .int) (by decide) (by decide))))
  have fk81 := ((fk66.other W73 (Or.inl ne_a1_s2)).other W77 (Or.inr (slot_ne (Or.inl (hw _ (List.mem_of_getElem? (i := 22) rfl))) (Or.inl (hw _ (List.mem_of_getElem? (i := 31) rfl))) (by decide) (t := (.array .int)) (t' := .int) (by decide) (by decide))))
  have fk82 := ((V65.other W73 ne_s1_s2).other W77 (Ne.symm ne_a1_s1))
  have fk83 := (V73.other W77 (Ne.symm ne_a1_s2))
  refine ⟨_, _, pre0 _ ?_, hrun, hended, _, _, rfl, ?_, ⟨_, rfl⟩, hW, hsame.mono (by decide) (by decide)⟩
  · show Steps _ _ _ (s₁.setTop (mkF m 0 #[vR a1, vR a2, vI 1, vI 7, .unset, .unset] [])) _
    refine XS.aloadN X0.here hx rfl (hb hby d5_0) rfl rfl ?_
    show Steps _ _ _ (s₁.setTop (mkF m 1 #[vR a1, vR a2, vI 1, vI 7, .unset, .unset] [iR a1])) _
    refine XS.aloadN X0.here hx rfl (hb hby d5_1) rfl rfl ?_
    show Steps _ _ _ (s₁.setTop (mkF m 2 #[vR a1, vR a2, vI 1, vI 7, .unset, .unset] [iR a2, iR a1])) _
    refine st1 _ ?_
    show Steps _ _ _ (T1.setTop (mkF m 5 #[vR a1, vR a2, vI 1, vI 7, .unset, .unset] [])) _
    refine XS.aloadN X1.here hx rfl (hb hby d5_5) rfl rfl ?_
    show Steps _ _ _ (T1.setTop (mkF m 6 #[vR a1, vR a2, vI 1, vI 7, .unset, .unset] [iR a1])) _
    refine XS.iconst X1.here hx rfl (hb hby d5_6) ?_
    show Steps _ _ _ (T1.setTop (mkF m 7 #[vR a1, vR a2, vI 1, vI 7, .unset, .unset] [iI 0, iR a1])) _
    refine st4 _ ?_
    show Steps _ _ _ (T4.setTop (mkF m 10 #[vR a1, vR a2, vI 1, vI 7, .unset, .unset] [])) _
    refine XS.iloadN X4.here hx rfl (hb hby d5_10) rfl ?_
    show Steps _ _ _ (T4.setTop (mkF m 11 #[vR a1, vR a2, vI 1, vI 7, .unset, .unset] [iI 1])) _
    refine XS.istore X4.here hx rfl (hb hby d5_11) rfl (l' := #[vR a1, vR a2, vI 1, vI 7, vI 1, .unset]) rfl ?_
    show Steps _ _ _ (T4.setTop (mkF m 13 #[vR a1, vR a2, vI 1, vI 7, vI 1, .unset] [])) _
    refine XS.iload X4.here hx rfl (hb hby d5_13) rfl ?_
    show Steps _ _ _ (T4.setTop (mkF m 15 #[vR a1, vR a2, vI 1, vI 7, vI 1, .unset] [iI 1])) _
    refine XS.iloadN X4.here hx rfl (hb hby d5_15) rfl ?_
    show Steps _ _ _ (T4.setTop (mkF m 16 #[vR a1, vR a2, vI 1, vI 7, vI 1, .unset] [iI 7, iI 1])) _
    refine XS.icmpNo X4.here hx rfl (hb hby d5_16) rfl (tlt (by decide : (1 : Int32) < (7 : Int32))).2.1 ?_
    show Steps _ _ _ (T4.setTop (mkF m 19 #[vR a1, vR a2, vI 1, vI 7, vI 1, .unset] [])) _
    refine XS.iload X4.here hx rfl (hb hby d5_19) rfl ?_
    show Steps _ _ _ (T4.setTop (mkF m 21 #[vR a1, vR a2, vI 1, vI 7, vI 1, .unset] [iI 1])) _
    refine XS.iloadN X4.here hx rfl (hb hby d5_21) rfl ?_
    show Steps _ _ _ (T4.setTop (mkF m 22 #[vR a1, vR a2, vI 1, vI 7, vI 1, .unset] [iI 7, iI 1])) _
    refine XS.icmpNo X4.here hx rfl (hb hby d5_22) rfl (tlt (by decide : (1 : Int32) < (7 : Int32))).2.1 ?_
    show Steps _ _ _ (T4.setTop (mkF m 25 #[vR a1, vR a2, vI 1, vI 7, vI 1, .unset] [])) _
    refine XS.aloadN X4.here hx rfl (hb hby d5_25) rfl rfl ?_
    show Steps _ _ _ (T4.setTop (mkF m 26 #[vR a1, vR a2, vI 1, vI 7, vI 1, .unset] [iR a2])) _
    refine XS.iload X4.here hx rfl (hb hby d5_26) rfl ?_
    show Steps _ _ _ (T4.setTop (mkF m 28 #[vR a1, vR a2, vI 1, vI 7, vI 1, .unset] [iI 1, iR a2])) _
    refine X4.baloadBytes hx (j := (1 : Int32)) (v := (.int x1)) (by rw [e4]; exact Ar6.1) (State.isArrayOf_alike hZ.alike Ar6.2.1) Ar6.2.2 hin7 hat8 (g := (mkF m 28 #[vR a1, vR a2, vI 1, vI 7, vI 1, .unset] [iI 1, iR a2])) rfl rfl (hb hby d5_28) _ ?_
    show Steps _ _ _ (T4.setTop (mkF m 29 #[vR a1, vR a2, vI 1, vI 7, vI 1, .unset] [iI x1])) _
    refine st9.trans ?_
    show Steps _ _ _ (T9.setTop (mkF m 32 #[vR a1, vR a2, vI 1, vI 7, vI 1, .unset] [iI (own_sep x1)])) _
    refine XS.ifYes X9.here hx rfl (pc0 := 32) (pc' := 41) rfl (hb hby d5_32) rfl ((if0 _ _).trans (teq hx1).1) (by decide) (by decide) ?_
    show Steps _ _ _ (T9.setTop (mkF m 41 #[vR a1, vR a2, vI 1, vI 7, vI 1, .unset] [])) _
    refine XS.iload X9.here hx rfl (hb hby d5_41) rfl ?_
    show Steps _ _ _ (T9.setTop (mkF m 43 #[vR a1, vR a2, vI 1, vI 7, vI 1, .unset] [iI 1])) _
    refine XS.istore X9.here hx rfl (hb hby d5_43) rfl (l' := #[vR a1, vR a2, vI 1, vI 7, vI 1, vI 1]) rfl ?_
    show Steps _ _ _ (T9.setTop (mkF m 45 #[vR a1, vR a2, vI 1, vI 7, vI 1, vI 1] [])) _
    refine XS.iload X9.here hx rfl (hb hby d5_45) rfl ?_
    show Steps _ _ _ (T9.setTop (mkF m 47 #[vR a1, vR a2, vI 1, vI 7, vI 1, vI 1] [iI 1])) _
    refine XS.iloadN X9.here hx rfl (hb hby d5_47) rfl ?_
    show Steps _ _ _ (T9.setTop (mkF m 48 #[vR a1, vR a2, vI 1, vI 7, vI 1, vI 1] [iI 7, iI 1])) _
    refine XS.icmpNo X9.here hx rfl (hb hby d5_48) rfl (tlt (by decide : (1 : Int32) < (7 : Int32))).2.1 ?_
    show Steps _ _ _ (T9.setTop (mkF m 51 #[vR a1, vR a2, vI 1, vI 7, vI 1, vI 1] [])) _
    refine XS.aloadN X9.here hx rfl (hb hby d5_51) rfl rfl ?_
    show Steps _ _ _ (T9.setTop (mkF m 52 #[vR a1, vR a2, vI 1, vI 7, vI 1, vI 1] [iR a2])) _
    refine XS.iload X9.here hx rfl (hb hby d5_52) rfl ?_
    show Steps _ _ _ (T9.setTop (mkF m 54 #[vR a1, vR a2, vI 1, vI 7, vI 1, vI 1] [iI 1, iR a2])) _
    refine X9.baloadBytes hx (j := (1 : Int32)) (v := (.int x1)) (by rw [e9]; exact Ar6.1) (State.isArrayOf_alike hZ.alike Ar6.2.1) Ar6.2.2 hin10 hat11 (g := (mkF m 54 #[vR a1, vR a2, vI 1, vI 7, vI 1, vI 1] [iI 1, iR a2])) rfl rfl (hb hby d5_54) _ ?_
    show Steps _ _ _ (T9.setTop (mkF m 55 #[vR a1, vR a2, vI 1, vI 7, vI 1, vI 1] [iI x1])) _
    refine st12.trans ?_
    show Steps _ _ _ (T12.setTop (mkF m 58 #[vR a1, vR a2, vI 1, vI 7, vI 1, vI 1] [iI (own_sep x1)])) _
    refine XS.ifNo X12.here hx rfl (hb hby d5_58) rfl ((if0 _ _).trans (teq hx1).2) ?_
    show Steps _ _ _ (T12.setTop (mkF m 61 #[vR a1, vR a2, vI 1, vI 7, vI 1, vI 1] [])) _
    refine XS.iinc X12.here hx rfl (hb hby d5_61) rfl (l' := #[vR a1, vR a2, vI 1, vI 7, vI ((1 : Int32) + (1 : Int32)), vI 1]) rfl ?_
    rw [(by decide : ((1 : Int32) + (1 : Int32)) = (2 : Int32))]
    show Steps _ _ _ (T12.setTop (mkF m 64 #[vR a1, vR a2, vI 1, vI 7, vI 2, vI 1] [])) _
    refine XS.goto X12.here hx rfl (pc0 := 64) (pc' := 45) rfl (hb hby d5_64) (by decide) (by decide) ?_
    show Steps _ _ _ (T12.setTop (mkF m 45 #[vR a1, vR a2, vI 1, vI 7, vI 2, vI 1] [])) _
    refine XS.iload X12.here hx rfl (hb hby d5_45) rfl ?_
    show Steps _ _ _ (T12.setTop (mkF m 47 #[vR a1, vR a2, vI 1, vI 7, vI 2, vI 1] [iI 2])) _
    refine XS.iloadN X12.here hx rfl (hb hby d5_47) rfl ?_
    show Steps _ _ _ (T12.setTop (mkF m 48 #[vR a1, vR a2, vI 1, vI 7, vI 2, vI 1] [iI 7, iI 2])) _
    refine XS.icmpNo X12.here hx rfl (hb hby d5_48) rfl (tlt (by decide : (2 : Int32) < (7 : Int32))).2.1 ?_
    show Steps _ _ _ (T12.setTop (mkF m 51 #[vR a1, vR a2, vI 1, vI 7, vI 2, vI 1] [])) _
    refine XS.aloadN X12.here hx rfl (hb hby d5_51) rfl rfl ?_
    show Steps _ _ _ (T12.setTop (mkF m 52 #[vR a1, vR a2, vI 1, vI 7, vI 2, vI 1] [iR a2])) _
    refine XS.iload X12.here hx rfl (hb hby d5_52) rfl ?_
    show Steps _ _ _ (T12.setTop (mkF m 54 #[vR a1, vR a2, vI 1, vI 7, vI 2, vI 1] [iI 2, iR a2])) _
    refine X12.baloadBytes hx (j := (2 : Int32)) (v := (.int x2)) (by rw [e12]; exact Ar6.1) (State.isArrayOf_alike hZ.alike Ar6.2.1) Ar6.2.2 hin13 hat14 (g := (mkF m 54 #[vR a1, vR a2, vI 1, vI 7, vI 2, vI 1] [iI 2, iR a2])) rfl rfl (hb hby d5_54) _ ?_
    show Steps _ _ _ (T12.setTop (mkF m 55 #[vR a1, vR a2, vI 1, vI 7, vI 2, vI 1] [iI x2])) _
    refine st15.trans ?_
    show Steps _ _ _ (T15.setTop (mkF m 58 #[vR a1, vR a2, vI 1, vI 7, vI 2, vI 1] [iI (own_sep x2)])) _
    refine XS.ifNo X15.here hx rfl (hb hby d5_58) rfl ((if0 _ _).trans (teq hx2).2) ?_
    show Steps _ _ _ (T15.setTop (mkF m 61 #[vR a1, vR a2, vI 1, vI 7, vI 2, vI 1] [])) _
    refine XS.iinc X15.here hx rfl (hb hby d5_61) rfl (l' := #[vR a1, vR a2, vI 1, vI 7, vI ((2 : Int32) + (1 : Int32)), vI 1]) rfl ?_
    rw [(by decide : ((2 : Int32) + (1 : Int32)) = (3 : Int32))]
    show Steps _ _ _ (T15.setTop (mkF m 64 #[vR a1, vR a2, vI 1, vI 7, vI 3, vI 1] [])) _
    refine XS.goto X15.here hx rfl (pc0 := 64) (pc' := 45) rfl (hb hby d5_64) (by decide) (by decide) ?_
    show Steps _ _ _ (T15.setTop (mkF m 45 #[vR a1, vR a2, vI 1, vI 7, vI 3, vI 1] [])) _
    refine XS.iload X15.here hx rfl (hb hby d5_45) rfl ?_
    show Steps _ _ _ (T15.setTop (mkF m 47 #[vR a1, vR a2, vI 1, vI 7, vI 3, vI 1] [iI 3])) _
    refine XS.iloadN X15.here hx rfl (hb hby d5_47) rfl ?_
    show Steps _ _ _ (T15.setTop (mkF m 48 #[vR a1, vR a2, vI 1, vI 7, vI 3, vI 1] [iI 7, iI 3])) _
    refine XS.icmpNo X15.here hx rfl (hb hby d5_48) rfl (tlt (by decide : (3 : Int32) < (7 : Int32))).2.1 ?_
    show Steps _ _ _ (T15.setTop (mkF m 51 #[vR a1, vR a2, vI 1, vI 7, vI 3, vI 1] [])) _
    refine XS.aloadN X15.here hx rfl (hb hby d5_51) rfl rfl ?_
    show Steps _ _ _ (T15.setTop (mkF m 52 #[vR a1, vR a2, vI 1, vI 7, vI 3, vI 1] [iR a2])) _
    refine XS.iload X15.here hx rfl (hb hby d5_52) rfl ?_
    show Steps _ _ _ (T15.setTop (mkF m 54 #[vR a1, vR a2, vI 1, vI 7, vI 3, vI 1] [iI 3, iR a2])) _
    refine X15.baloadBytes hx (j := (3 : Int32)) (v := (.int x3)) (by rw [e15]; exact Ar6.1) (State.isArrayOf_alike hZ.alike Ar6.2.1) Ar6.2.2 hin16 hat17 (g := (mkF m 54 #[vR a1, vR a2, vI 1, vI 7, vI 3, vI 1] [iI 3, iR a2])) rfl rfl (hb hby d5_54) _ ?_
    show Steps _ _ _ (T15.setTop (mkF m 55 #[vR a1, vR a2, vI 1, vI 7, vI 3, vI 1] [iI x3])) _
    refine st18.trans ?_
    show Steps _ _ _ (T18.setTop (mkF m 58 #[vR a1, vR a2, vI 1, vI 7, vI 3, vI 1] [iI (own_sep x3)])) _
    refine XS.ifYes X18.here hx rfl (pc0 := 58) (pc' := 67) rfl (hb hby d5_58) rfl ((if0 _ _).trans (feq hx3).2) (by decide) (by decide) ?_
    show Steps _ _ _ (T18.setTop (mkF m 67 #[vR a1, vR a2, vI 1, vI 7, vI 3, vI 1] [])) _
    refine XS.iload X18.here hx rfl (hb hby d5_67) rfl ?_
    show Steps _ _ _ (T18.setTop (mkF m 69 #[vR a1, vR a2, vI 1, vI 7, vI 3, vI 1] [iI 3])) _
    refine XS.iload X18.here hx rfl (hb hby d5_69) rfl ?_
    show Steps _ _ _ (T18.setTop (mkF m 71 #[vR a1, vR a2, vI 1, vI 7, vI 3, vI 1] [iI 1, iI 3])) _
    refine XS.icmpNo X18.here hx rfl (hb hby d5_71) rfl (tlt (by decide : (1 : Int32) < (3 : Int32))).2.2.2 ?_
    show Steps _ _ _ (T18.setTop (mkF m 74 #[vR a1, vR a2, vI 1, vI 7, vI 3, vI 1] [])) _
    refine XS.aloadN X18.here hx rfl (hb hby d5_74) rfl rfl ?_
    show Steps _ _ _ (T18.setTop (mkF m 75 #[vR a1, vR a2, vI 1, vI 7, vI 3, vI 1] [iR a1])) _
    refine st19 _ ?_
    show Steps _ _ _ (T19.setTop (mkF m 78 #[vR a1, vR a2, vI 1, vI 7, vI 3, vI 1] [iI 0])) _
    refine XS.aloadN X19.here hx rfl (hb hby d5_78) rfl rfl ?_
    show Steps _ _ _ (T19.setTop (mkF m 79 #[vR a1, vR a2, vI 1, vI 7, vI 3, vI 1] [iR a1, iI 0])) _
    refine st21 _ ?_
    show Steps _ _ _ (T21.setTop (mkF m 82 #[vR a1, vR a2, vI 1, vI 7, vI 3, vI 1] [iR s1, iI 0])) _
    refine X21.arraylength hx (by rw [e21]; exact Ar23.1) (State.isArrayOf_alike hZ.alike Ar23.2.1) (g := (mkF m 82 #[vR a1, vR a2, vI 1, vI 7, vI 3, vI 1] [iR s1, iI 0])) rfl rfl (hb hby d5_82) _ ?_
    rw [len_of S23 M23]
    show Steps _ _ _ (T21.setTop (mkF m 83 #[vR a1, vR a2, vI 1, vI 7, vI 3, vI 1] [iI 16, iI 0])) _
    refine XS.icmpYes X21.here hx rfl (pc0 := 83) (pc' := 120) rfl (hb hby d5_83) rfl (feq (by decide : ¬ ((0 : Int32) = (16 : Int32)))).2 (by decide) (by decide) ?_
    show Steps _ _ _ (T21.setTop (mkF m 120 #[vR a1, vR a2, vI 1, vI 7, vI 3, vI 1] [])) _
    refine XS.aloadN X21.here hx rfl (hb hby d5_120) rfl rfl ?_
    show Steps _ _ _ (T21.setTop (mkF m 121 #[vR a1, vR a2, vI 1, vI 7, vI 3, vI 1] [iR a1])) _
    refine st24 _ ?_
    show Steps _ _ _ (T24.setTop (mkF m 124 #[vR a1, vR a2, vI 1, vI 7, vI 3, vI 1] [iR s1])) _
    refine XS.aloadN X24.here hx rfl (hb hby d5_124) rfl rfl ?_
    show Steps _ _ _ (T24.setTop (mkF m 125 #[vR a1, vR a2, vI 1, vI 7, vI 3, vI 1] [iR a1, iR s1])) _
    refine st25 _ ?_
    show Steps _ _ _ (T25.setTop (mkF m 128 #[vR a1, vR a2, vI 1, vI 7, vI 3, vI 1] [iI 0, iR s1])) _
    refine XS.iload X25.here hx rfl (hb hby d5_128) rfl ?_
    show Steps _ _ _ (T25.setTop (mkF m 130 #[vR a1, vR a2, vI 1, vI 7, vI 3, vI 1] [iI 1, iI 0, iR s1])) _
    refine st27 _ ?_
    show Steps _ _ _ (T27.setTop (mkF m 131 #[vR a1, vR a2, vI 1, vI 7, vI 3, vI 1] [])) _
    refine XS.aloadN X27.here hx rfl (hb hby d5_131) rfl rfl ?_
    show Steps _ _ _ (T27.setTop (mkF m 132 #[vR a1, vR a2, vI 1, vI 7, vI 3, vI 1] [iR a1])) _
    refine st29 _ ?_
    show Steps _ _ _ (T29.setTop (mkF m 135 #[vR a1, vR a2, vI 1, vI 7, vI 3, vI 1] [iR s2])) _
    refine XS.aloadN X29.here hx rfl (hb hby d5_135) rfl rfl ?_
    show Steps _ _ _ (T29.setTop (mkF m 136 #[vR a1, vR a2, vI 1, vI 7, vI 3, vI 1] [iR a1, iR s2])) _
    refine st31 _ ?_
    show Steps _ _ _ (T31.setTop (mkF m 139 #[vR a1, vR a2, vI 1, vI 7, vI 3, vI 1] [iI 0, iR s2])) _
    refine XS.iload X31.here hx rfl (hb hby d5_139) rfl ?_
    show Steps _ _ _ (T31.setTop (mkF m 141 #[vR a1, vR a2, vI 1, vI 7, vI 3, vI 1] [iI 3, iI 0, iR s2])) _
    refine st35 _ ?_
    show Steps _ _ _ (T35.setTop (mkF m 142 #[vR a1, vR a2, vI 1, vI 7, vI 3, vI 1] [])) _
    refine XS.aloadN X35.here hx rfl (hb hby d5_142) rfl rfl ?_
    show Steps _ _ _ (T35.setTop (mkF m 143 #[vR a1, vR a2, vI 1, vI 7, vI 3, vI 1] [iR a1])) _
    refine XS.dup X35.here hx rfl (hb hby d5_143) rfl rfl ?_
    show Steps _ _ _ (T35.setTop (mkF m 144 #[vR a1, vR a2, vI 1, vI 7, vI 3, vI 1] [iR a1, iR a1])) _
    refine st37 _ ?_
    show Steps _ _ _ (T37.setTop (mkF m 147 #[vR a1, vR a2, vI 1, vI 7, vI 3, vI 1] [iI 0, iR a1])) _
    refine XS.iconst X37.here hx rfl (hb hby d5_147) ?_
    show Steps _ _ _ (T37.setTop (mkF m 148 #[vR a1, vR a2, vI 1, vI 7, vI 3, vI 1] [iI 1, iI 0, iR a1])) _
    refine XS.iadd X37.here hx rfl (hb hby d5_148) rfl ?_
    rw [(by decide : ((0 : Int32) + (1 : Int32)) = (1 : Int32))]
    show Steps _ _ _ (T37.setTop (mkF m 149 #[vR a1, vR a2, vI 1, vI 7, vI 3, vI 1] [iI 1, iR a1])) _
    refine st39 _ ?_
    show Steps _ _ _ (T39.setTop (mkF m 152 #[vR a1, vR a2, vI 1, vI 7, vI 3, vI 1] [])) _
    refine XS.goto X39.here hx rfl (pc0 := 152) (pc' := 13) rfl (hb hby d5_152) (by decide) (by decide) ?_
    show Steps _ _ _ (T39.setTop (mkF m 13 #[vR a1, vR a2, vI 1, vI 7, vI 3, vI 1] [])) _
    refine XS.iload X39.here hx rfl (hb hby d5_13) rfl ?_
    show Steps _ _ _ (T39.setTop (mkF m 15 #[vR a1, vR a2, vI 1, vI 7, vI 3, vI 1] [iI 3])) _
    refine XS.iloadN X39.here hx rfl (hb hby d5_15) rfl ?_
    show Steps _ _ _ (T39.setTop (mkF m 16 #[vR a1, vR a2, vI 1, vI 7, vI 3, vI 1] [iI 7, iI 3])) _
    refine XS.icmpNo X39.here hx rfl (hb hby d5_16) rfl (tlt (by decide : (3 : Int32) < (7 : Int32))).2.1 ?_
    show Steps _ _ _ (T39.setTop (mkF m 19 #[vR a1, vR a2, vI 1, vI 7, vI 3, vI 1] [])) _
    refine XS.iload X39.here hx rfl (hb hby d5_19) rfl ?_
    show Steps _ _ _ (T39.setTop (mkF m 21 #[vR a1, vR a2, vI 1, vI 7, vI 3, vI 1] [iI 3])) _
    refine XS.iloadN X39.here hx rfl (hb hby d5_21) rfl ?_
    show Steps _ _ _ (T39.setTop (mkF m 22 #[vR a1, vR a2, vI 1, vI 7, vI 3, vI 1] [iI 7, iI 3])) _
    refine XS.icmpNo X39.here hx rfl (hb hby d5_22) rfl (tlt (by decide : (3 : Int32) < (7 : Int32))).2.1 ?_
    show Steps _ _ _ (T39.setTop (mkF m 25 #[vR a1, vR a2, vI 1, vI 7, vI 3, vI 1] [])) _
    refine XS.aloadN X39.here hx rfl (hb hby d5_25) rfl rfl ?_
    show Steps _ _ _ (T39.setTop (mkF m 26 #[vR a1, vR a2, vI 1, vI 7, vI 3, vI 1] [iR a2])) _
    refine XS.iload X39.here hx rfl (hb hby d5_26) rfl ?_
    show Steps _ _ _ (T39.setTop (mkF m 28 #[vR a1, vR a2, vI 1, vI 7, vI 3, vI 1] [iI 3, iR a2])) _
    refine X39.baloadBytes hx (j := (3 : Int32)) (v := (.int x3)) (by rw [e39]; exact Ar41.1) (State.isArrayOf_alike hZ.alike Ar41.2.1) Ar41.2.2 hin42 hat43 (g := (mkF m 28 #[vR a1, vR a2, vI 1, vI 7, vI 3, vI 1] [iI 3, iR a2])) rfl rfl (hb hby d5_28) _ ?_
    show Steps _ _ _ (T39.setTop (mkF m 29 #[vR a1, vR a2, vI 1, vI 7, vI 3, vI 1] [iI x3])) _
    refine st44.trans ?_
    show Steps _ _ _ (T44.setTop (mkF m 32 #[vR a1, vR a2, vI 1, vI 7, vI 3, vI 1] [iI (own_sep x3)])) _
    refine XS.ifNo X44.here hx rfl (hb hby d5_32) rfl ((if0 _ _).trans (feq hx3).1) ?_
    show Steps _ _ _ (T44.setTop (mkF m 35 #[vR a1, vR a2, vI 1, vI 7, vI 3, vI 1] [])) _
    refine XS.iinc X44.here hx rfl (hb hby d5_35) rfl (l' := #[vR a1, vR a2, vI 1, vI 7, vI ((3 : Int32) + (1 : Int32)), vI 1]) rfl ?_
    rw [(by decide : ((3 : Int32) + (1 : Int32)) = (4 : Int32))]
    show Steps _ _ _ (T44.setTop (mkF m 38 #[vR a1, vR a2, vI 1, vI 7, vI 4, vI 1] [])) _
    refine XS.goto X44.here hx rfl (pc0 := 38) (pc' := 19) rfl (hb hby d5_38) (by decide) (by decide) ?_
    show Steps _ _ _ (T44.setTop (mkF m 19 #[vR a1, vR a2, vI 1, vI 7, vI 4, vI 1] [])) _
    refine XS.iload X44.here hx rfl (hb hby d5_19) rfl ?_
    show Steps _ _ _ (T44.setTop (mkF m 21 #[vR a1, vR a2, vI 1, vI 7, vI 4, vI 1] [iI 4])) _
    refine XS.iloadN X44.here hx rfl (hb hby d5_21) rfl ?_
    show Steps _ _ _ (T44.setTop (mkF m 22 #[vR a1, vR a2, vI 1, vI 7, vI 4, vI 1] [iI 7, iI 4])) _
    refine XS.icmpNo X44.here hx rfl (hb hby d5_22) rfl (tlt (by decide : (4 : Int32) < (7 : Int32))).2.1 ?_
    show Steps _ _ _ (T44.setTop (mkF m 25 #[vR a1, vR a2, vI 1, vI 7, vI 4, vI 1] [])) _
    refine XS.aloadN X44.here hx rfl (hb hby d5_25) rfl rfl ?_
    show Steps _ _ _ (T44.setTop (mkF m 26 #[vR a1, vR a2, vI 1, vI 7, vI 4, vI 1] [iR a2])) _
    refine XS.iload X44.here hx rfl (hb hby d5_26) rfl ?_
    show Steps _ _ _ (T44.setTop (mkF m 28 #[vR a1, vR a2, vI 1, vI 7, vI 4, vI 1] [iI 4, iR a2])) _
    refine X44.baloadBytes hx (j := (4 : Int32)) (v := (.int x4)) (by rw [e44]; exact Ar41.1) (State.isArrayOf_alike hZ.alike Ar41.2.1) Ar41.2.2 hin45 hat46 (g := (mkF m 28 #[vR a1, vR a2, vI 1, vI 7, vI 4, vI 1] [iI 4, iR a2])) rfl rfl (hb hby d5_28) _ ?_
    show Steps _ _ _ (T44.setTop (mkF m 29 #[vR a1, vR a2, vI 1, vI 7, vI 4, vI 1] [iI x4])) _
    refine st47.trans ?_
    show Steps _ _ _ (T47.setTop (mkF m 32 #[vR a1, vR a2, vI 1, vI 7, vI 4, vI 1] [iI (own_sep x4)])) _
    refine XS.ifYes X47.here hx rfl (pc0 := 32) (pc' := 41) rfl (hb hby d5_32) rfl ((if0 _ _).trans (teq hx4).1) (by decide) (by decide) ?_
    show Steps _ _ _ (T47.setTop (mkF m 41 #[vR a1, vR a2, vI 1, vI 7, vI 4, vI 1] [])) _
    refine XS.iload X47.here hx rfl (hb hby d5_41) rfl ?_
    show Steps _ _ _ (T47.setTop (mkF m 43 #[vR a1, vR a2, vI 1, vI 7, vI 4, vI 1] [iI 4])) _
    refine XS.istore X47.here hx rfl (hb hby d5_43) rfl (l' := #[vR a1, vR a2, vI 1, vI 7, vI 4, vI 4]) rfl ?_
    show Steps _ _ _ (T47.setTop (mkF m 45 #[vR a1, vR a2, vI 1, vI 7, vI 4, vI 4] [])) _
    refine XS.iload X47.here hx rfl (hb hby d5_45) rfl ?_
    show Steps _ _ _ (T47.setTop (mkF m 47 #[vR a1, vR a2, vI 1, vI 7, vI 4, vI 4] [iI 4])) _
    refine XS.iloadN X47.here hx rfl (hb hby d5_47) rfl ?_
    show Steps _ _ _ (T47.setTop (mkF m 48 #[vR a1, vR a2, vI 1, vI 7, vI 4, vI 4] [iI 7, iI 4])) _
    refine XS.icmpNo X47.here hx rfl (hb hby d5_48) rfl (tlt (by decide : (4 : Int32) < (7 : Int32))).2.1 ?_
    show Steps _ _ _ (T47.setTop (mkF m 51 #[vR a1, vR a2, vI 1, vI 7, vI 4, vI 4] [])) _
    refine XS.aloadN X47.here hx rfl (hb hby d5_51) rfl rfl ?_
    show Steps _ _ _ (T47.setTop (mkF m 52 #[vR a1, vR a2, vI 1, vI 7, vI 4, vI 4] [iR a2])) _
    refine XS.iload X47.here hx rfl (hb hby d5_52) rfl ?_
    show Steps _ _ _ (T47.setTop (mkF m 54 #[vR a1, vR a2, vI 1, vI 7, vI 4, vI 4] [iI 4, iR a2])) _
    refine X47.baloadBytes hx (j := (4 : Int32)) (v := (.int x4)) (by rw [e47]; exact Ar41.1) (State.isArrayOf_alike hZ.alike Ar41.2.1) Ar41.2.2 hin48 hat49 (g := (mkF m 54 #[vR a1, vR a2, vI 1, vI 7, vI 4, vI 4] [iI 4, iR a2])) rfl rfl (hb hby d5_54) _ ?_
    show Steps _ _ _ (T47.setTop (mkF m 55 #[vR a1, vR a2, vI 1, vI 7, vI 4, vI 4] [iI x4])) _
    refine st50.trans ?_
    show Steps _ _ _ (T50.setTop (mkF m 58 #[vR a1, vR a2, vI 1, vI 7, vI 4, vI 4] [iI (own_sep x4)])) _
    refine XS.ifNo X50.here hx rfl (hb hby d5_58) rfl ((if0 _ _).trans (teq hx4).2) ?_
    show Steps _ _ _ (T50.setTop (mkF m 61 #[vR a1, vR a2, vI 1, vI 7, vI 4, vI 4] [])) _
    refine XS.iinc X50.here hx rfl (hb hby d5_61) rfl (l' := #[vR a1, vR a2, vI 1, vI 7, vI ((4 : Int32) + (1 : Int32)), vI 4]) rfl ?_
    rw [(by decide : ((4 : Int32) + (1 : Int32)) = (5 : Int32))]
    show Steps _ _ _ (T50.setTop (mkF m 64 #[vR a1, vR a2, vI 1, vI 7, vI 5, vI 4] [])) _
    refine XS.goto X50.here hx rfl (pc0 := 64) (pc' := 45) rfl (hb hby d5_64) (by decide) (by decide) ?_
    show Steps _ _ _ (T50.setTop (mkF m 45 #[vR a1, vR a2, vI 1, vI 7, vI 5, vI 4] [])) _
    refine XS.iload X50.here hx rfl (hb hby d5_45) rfl ?_
    show Steps _ _ _ (T50.setTop (mkF m 47 #[vR a1, vR a2, vI 1, vI 7, vI 5, vI 4] [iI 5])) _
    refine XS.iloadN X50.here hx rfl (hb hby d5_47) rfl ?_
    show Steps _ _ _ (T50.setTop (mkF m 48 #[vR a1, vR a2, vI 1, vI 7, vI 5, vI 4] [iI 7, iI 5])) _
    refine XS.icmpNo X50.here hx rfl (hb hby d5_48) rfl (tlt (by decide : (5 : Int32) < (7 : Int32))).2.1 ?_
    show Steps _ _ _ (T50.setTop (mkF m 51 #[vR a1, vR a2, vI 1, vI 7, vI 5, vI 4] [])) _
    refine XS.aloadN X50.here hx rfl (hb hby d5_51) rfl rfl ?_
    show Steps _ _ _ (T50.setTop (mkF m 52 #[vR a1, vR a2, vI 1, vI 7, vI 5, vI 4] [iR a2])) _
    refine XS.iload X50.here hx rfl (hb hby d5_52) rfl ?_
    show Steps _ _ _ (T50.setTop (mkF m 54 #[vR a1, vR a2, vI 1, vI 7, vI 5, vI 4] [iI 5, iR a2])) _
    refine X50.baloadBytes hx (j := (5 : Int32)) (v := (.int x5)) (by rw [e50]; exact Ar41.1) (State.isArrayOf_alike hZ.alike Ar41.2.1) Ar41.2.2 hin51 hat52 (g := (mkF m 54 #[vR a1, vR a2, vI 1, vI 7, vI 5, vI 4] [iI 5, iR a2])) rfl rfl (hb hby d5_54) _ ?_
    show Steps _ _ _ (T50.setTop (mkF m 55 #[vR a1, vR a2, vI 1, vI 7, vI 5, vI 4] [iI x5])) _
    refine st53.trans ?_
    show Steps _ _ _ (T53.setTop (mkF m 58 #[vR a1, vR a2, vI 1, vI 7, vI 5, vI 4] [iI (own_sep x5)])) _
    refine XS.ifNo X53.here hx rfl (hb hby d5_58) rfl ((if0 _ _).trans (teq hx5).2) ?_
    show Steps _ _ _ (T53.setTop (mkF m 61 #[vR a1, vR a2, vI 1, vI 7, vI 5, vI 4] [])) _
    refine XS.iinc X53.here hx rfl (hb hby d5_61) rfl (l' := #[vR a1, vR a2, vI 1, vI 7, vI ((5 : Int32) + (1 : Int32)), vI 4]) rfl ?_
    rw [(by decide : ((5 : Int32) + (1 : Int32)) = (6 : Int32))]
    show Steps _ _ _ (T53.setTop (mkF m 64 #[vR a1, vR a2, vI 1, vI 7, vI 6, vI 4] [])) _
    refine XS.goto X53.here hx rfl (pc0 := 64) (pc' := 45) rfl (hb hby d5_64) (by decide) (by decide) ?_
    show Steps _ _ _ (T53.setTop (mkF m 45 #[vR a1, vR a2, vI 1, vI 7, vI 6, vI 4] [])) _
    refine XS.iload X53.here hx rfl (hb hby d5_45) rfl ?_
    show Steps _ _ _ (T53.setTop (mkF m 47 #[vR a1, vR a2, vI 1, vI 7, vI 6, vI 4] [iI 6])) _
    refine XS.iloadN X53.here hx rfl (hb hby d5_47) rfl ?_
    show Steps _ _ _ (T53.setTop (mkF m 48 #[vR a1, vR a2, vI 1, vI 7, vI 6, vI 4] [iI 7, iI 6])) _
    refine XS.icmpNo X53.here hx rfl (hb hby d5_48) rfl (tlt (by decide : (6 : Int32) < (7 : Int32))).2.1 ?_
    show Steps _ _ _ (T53.setTop (mkF m 51 #[vR a1, vR a2, vI 1, vI 7, vI 6, vI 4] [])) _
    refine XS.aloadN X53.here hx rfl (hb hby d5_51) rfl rfl ?_
    show Steps _ _ _ (T53.setTop (mkF m 52 #[vR a1, vR a2, vI 1, vI 7, vI 6, vI 4] [iR a2])) _
    refine XS.iload X53.here hx rfl (hb hby d5_52) rfl ?_
    show Steps _ _ _ (T53.setTop (mkF m 54 #[vR a1, vR a2, vI 1, vI 7, vI 6, vI 4] [iI 6, iR a2])) _
    refine X53.baloadBytes hx (j := (6 : Int32)) (v := (.int x6)) (by rw [e53]; exact Ar41.1) (State.isArrayOf_alike hZ.alike Ar41.2.1) Ar41.2.2 hin54 hat55 (g := (mkF m 54 #[vR a1, vR a2, vI 1, vI 7, vI 6, vI 4] [iI 6, iR a2])) rfl rfl (hb hby d5_54) _ ?_
    show Steps _ _ _ (T53.setTop (mkF m 55 #[vR a1, vR a2, vI 1, vI 7, vI 6, vI 4] [iI x6])) _
    refine st56.trans ?_
    show Steps _ _ _ (T56.setTop (mkF m 58 #[vR a1, vR a2, vI 1, vI 7, vI 6, vI 4] [iI (own_sep x6)])) _
    refine XS.ifNo X56.here hx rfl (hb hby d5_58) rfl ((if0 _ _).trans (teq hx6).2) ?_
    show Steps _ _ _ (T56.setTop (mkF m 61 #[vR a1, vR a2, vI 1, vI 7, vI 6, vI 4] [])) _
    refine XS.iinc X56.here hx rfl (hb hby d5_61) rfl (l' := #[vR a1, vR a2, vI 1, vI 7, vI ((6 : Int32) + (1 : Int32)), vI 4]) rfl ?_
    rw [(by decide : ((6 : Int32) + (1 : Int32)) = (7 : Int32))]
    show Steps _ _ _ (T56.setTop (mkF m 64 #[vR a1, vR a2, vI 1, vI 7, vI 7, vI 4] [])) _
    refine XS.goto X56.here hx rfl (pc0 := 64) (pc' := 45) rfl (hb hby d5_64) (by decide) (by decide) ?_
    show Steps _ _ _ (T56.setTop (mkF m 45 #[vR a1, vR a2, vI 1, vI 7, vI 7, vI 4] [])) _
    refine XS.iload X56.here hx rfl (hb hby d5_45) rfl ?_
    show Steps _ _ _ (T56.setTop (mkF m 47 #[vR a1, vR a2, vI 1, vI 7, vI 7, vI 4] [iI 7])) _
    refine XS.iloadN X56.here hx rfl (hb hby d5_47) rfl ?_
    show Steps _ _ _ (T56.setTop (mkF m 48 #[vR a1, vR a2, vI 1, vI 7, vI 7, vI 4] [iI 7, iI 7])) _
    refine XS.icmpYes X56.here hx rfl (pc0 := 48) (pc' := 67) rfl (hb hby d5_48) rfl (flt (by decide : ¬ ((7 : Int32) < (7 : Int32)))).2.1 (by decide) (by decide) ?_
    show Steps _ _ _ (T56.setTop (mkF m 67 #[vR a1, vR a2, vI 1, vI 7, vI 7, vI 4] [])) _
    refine XS.iload X56.here hx rfl (hb hby d5_67) rfl ?_
    show Steps _ _ _ (T56.setTop (mkF m 69 #[vR a1, vR a2, vI 1, vI 7, vI 7, vI 4] [iI 7])) _
    refine XS.iload X56.here hx rfl (hb hby d5_69) rfl ?_
    show Steps _ _ _ (T56.setTop (mkF m 71 #[vR a1, vR a2, vI 1, vI 7, vI 7, vI 4] [iI 4, iI 7])) _
    refine XS.icmpNo X56.here hx rfl (hb hby d5_71) rfl (tlt (by decide : (4 : Int32) < (7 : Int32))).2.2.2 ?_
    show Steps _ _ _ (T56.setTop (mkF m 74 #[vR a1, vR a2, vI 1, vI 7, vI 7, vI 4] [])) _
    refine XS.aloadN X56.here hx rfl (hb hby d5_74) rfl rfl ?_
    show Steps _ _ _ (T56.setTop (mkF m 75 #[vR a1, vR a2, vI 1, vI 7, vI 7, vI 4] [iR a1])) _
    refine st57 _ ?_
    show Steps _ _ _ (T57.setTop (mkF m 78 #[vR a1, vR a2, vI 1, vI 7, vI 7, vI 4] [iI 1])) _
    refine XS.aloadN X57.here hx rfl (hb hby d5_78) rfl rfl ?_
    show Steps _ _ _ (T57.setTop (mkF m 79 #[vR a1, vR a2, vI 1, vI 7, vI 7, vI 4] [iR a1, iI 1])) _
    refine st59 _ ?_
    show Steps _ _ _ (T59.setTop (mkF m 82 #[vR a1, vR a2, vI 1, vI 7, vI 7, vI 4] [iR s1, iI 1])) _
    refine X59.arraylength hx (by rw [e59]; exact Ar61.1) (State.isArrayOf_alike hZ.alike Ar61.2.1) (g := (mkF m 82 #[vR a1, vR a2, vI 1, vI 7, vI 7, vI 4] [iR s1, iI 1])) rfl rfl (hb hby d5_82) _ ?_
    rw [len_of S61 M61]
    show Steps _ _ _ (T59.setTop (mkF m 83 #[vR a1, vR a2, vI 1, vI 7, vI 7, vI 4] [iI 16, iI 1])) _
    refine XS.icmpYes X59.here hx rfl (pc0 := 83) (pc' := 120) rfl (hb hby d5_83) rfl (feq (by decide : ¬ ((1 : Int32) = (16 : Int32)))).2 (by decide) (by decide) ?_
    show Steps _ _ _ (T59.setTop (mkF m 120 #[vR a1, vR a2, vI 1, vI 7, vI 7, vI 4] [])) _
    refine XS.aloadN X59.here hx rfl (hb hby d5_120) rfl rfl ?_
    show Steps _ _ _ (T59.setTop (mkF m 121 #[vR a1, vR a2, vI 1, vI 7, vI 7, vI 4] [iR a1])) _
    refine st62 _ ?_
    show Steps _ _ _ (T62.setTop (mkF m 124 #[vR a1, vR a2, vI 1, vI 7, vI 7, vI 4] [iR s1])) _
    refine XS.aloadN X62.here hx rfl (hb hby d5_124) rfl rfl ?_
    show Steps _ _ _ (T62.setTop (mkF m 125 #[vR a1, vR a2, vI 1, vI 7, vI 7, vI 4] [iR a1, iR s1])) _
    refine st63 _ ?_
    show Steps _ _ _ (T63.setTop (mkF m 128 #[vR a1, vR a2, vI 1, vI 7, vI 7, vI 4] [iI 1, iR s1])) _
    refine XS.iload X63.here hx rfl (hb hby d5_128) rfl ?_
    show Steps _ _ _ (T63.setTop (mkF m 130 #[vR a1, vR a2, vI 1, vI 7, vI 7, vI 4] [iI 4, iI 1, iR s1])) _
    refine st65 _ ?_
    show Steps _ _ _ (T65.setTop (mkF m 131 #[vR a1, vR a2, vI 1, vI 7, vI 7, vI 4] [])) _
    refine XS.aloadN X65.here hx rfl (hb hby d5_131) rfl rfl ?_
    show Steps _ _ _ (T65.setTop (mkF m 132 #[vR a1, vR a2, vI 1, vI 7, vI 7, vI 4] [iR a1])) _
    refine st67 _ ?_
    show Steps _ _ _ (T67.setTop (mkF m 135 #[vR a1, vR a2, vI 1, vI 7, vI 7, vI 4] [iR s2])) _
    refine XS.aloadN X67.here hx rfl (hb hby d5_135) rfl rfl ?_
    show Steps _ _ _ (T67.setTop (mkF m 136 #[vR a1, vR a2, vI 1, vI 7, vI 7, vI 4] [iR a1, iR s2])) _
    refine st69 _ ?_
    show Steps _ _ _ (T69.setTop (mkF m 139 #[vR a1, vR a2, vI 1, vI 7, vI 7, vI 4] [iI 1, iR s2])) _
    refine XS.iload X69.here hx rfl (hb hby d5_139) rfl ?_
    show Steps _ _ _ (T69.setTop (mkF m 141 #[vR a1, vR a2, vI 1, vI 7, vI 7, vI 4] [iI 7, iI 1, iR s2])) _
    refine st73 _ ?_
    show Steps _ _ _ (T73.setTop (mkF m 142 #[vR a1, vR a2, vI 1, vI 7, vI 7, vI 4] [])) _
    refine XS.aloadN X73.here hx rfl (hb hby d5_142) rfl rfl ?_
    show Steps _ _ _ (T73.setTop (mkF m 143 #[vR a1, vR a2, vI 1, vI 7, vI 7, vI 4] [iR a1])) _
    refine XS.dup X73.here hx rfl (hb hby d5_143) rfl rfl ?_
    show Steps _ _ _ (T73.setTop (mkF m 144 #[vR a1, vR a2, vI 1, vI 7, vI 7, vI 4] [iR a1, iR a1])) _
    refine st75 _ ?_
    show Steps _ _ _ (T75.setTop (mkF m 147 #[vR a1, vR a2, vI 1, vI 7, vI 7, vI 4] [iI 1, iR a1])) _
    refine XS.iconst X75.here hx rfl (hb hby d5_147) ?_
    show Steps _ _ _ (T75.setTop (mkF m 148 #[vR a1, vR a2, vI 1, vI 7, vI 7, vI 4] [iI 1, iI 1, iR a1])) _
    refine XS.iadd X75.here hx rfl (hb hby d5_148) rfl ?_
    rw [(by decide : ((1 : Int32) + (1 : Int32)) = (2 : Int32))]
    show Steps _ _ _ (T75.setTop (mkF m 149 #[vR a1, vR a2, vI 1, vI 7, vI 7, vI 4] [iI 2, iR a1])) _
    refine st77 _ ?_
    show Steps _ _ _ (T77.setTop (mkF m 152 #[vR a1, vR a2, vI 1, vI 7, vI 7, vI 4] [])) _
    refine XS.goto X77.here hx rfl (pc0 := 152) (pc' := 13) rfl (hb hby d5_152) (by decide) (by decide) ?_
    show Steps _ _ _ (T77.setTop (mkF m 13 #[vR a1, vR a2, vI 1, vI 7, vI 7, vI 4] [])) _
    refine XS.iload X77.here hx rfl (hb hby d5_13) rfl ?_
    show Steps _ _ _ (T77.setTop (mkF m 15 #[vR a1, vR a2, vI 1, vI 7, vI 7, vI 4] [iI 7])) _
    refine XS.iloadN X77.here hx rfl (hb hby d5_15) rfl ?_
    show Steps _ _ _ (T77.setTop (mkF m 16 #[vR a1, vR a2, vI 1, vI 7, vI 7, vI 4] [iI 7, iI 7])) _
    refine XS.icmpYes X77.here hx rfl (pc0 := 16) (pc' := 155) rfl (hb hby d5_16) rfl (flt (by decide : ¬ ((7 : Int32) < (7 : Int32)))).2.1 (by decide) (by decide) ?_
    show Steps _ _ _ (T77.setTop (mkF m 155 #[vR a1, vR a2, vI 1, vI 7, vI 7, vI 4] [])) _
    exact X77.returnOut hx Bd.returns (hb hby d5_155) hr
  · show Q5_1_7 Z a1 a2 s1 s2 k1 k2 kl x0 x1 x2 x3 x4 x5 x6 h0 n0 _ T77.heap _
    rw [e77]
    exact ⟨rfl, N77, K77, fk78, fk79, fk80, fk81, fk82, fk83⟩
theorem ef_5_2_5 (m : MethodId) (x0 : Addr) (x1 : Addr) : entryFrame m #[(.ref x0), (.ref x1), (.int (2 : Int32)), (.int (5 : Int32))] 6 = mkF m 0 #[.val (.ref x0), .val (.ref x1), .val (.int (2 : Int32)), .val (.int (5 : Int32)), .unset, .unset] [] := by first | (simp [entryFrame, mkF, argsToLocals, Value.category]; done) | rfl
def Q5_2_5 (Z : State) (a1 : Addr) (a2 : Addr) (s1 s2 : Addr) (k1 k2 kl : ClassId) (x0 : Int32) (x1 : Int32) (x2 : Int32) (x3 : Int32) (x4 : Int32) (x5 : Int32) (x6 : Int32) (h0 : Heap) (n0 : Nat) (v : Option Value) (h : Heap) (L : List Loc) : Prop := v = none ∧ Fr n0 L ∧ Keep h0 h [a1, s1, s2] ∧ Exa Z h a1 "com/example/tidemine/tidemine/TextFormat$Tokens" ∧ Fld Z h a1 "com/example/tidemine/tidemine/TextFormat$Tokens" "line" "[B" (.ref a2) ∧ Fld Z h a1 "com/example/tidemine/tidemine/TextFormat$Tokens" "starts" "[I" (.ref s1) ∧ Fld Z h a1 "com/example/tidemine/tidemine/TextFormat$Tokens" "ends" "[I" (.ref s2) ∧ Arv Z h s1 k1 .int (16 : Int32) [(.int (2 : Int32)), (.int (4 : Int32)), (.int (0 : Int32)), (.int (0 : Int32)), (.int (0 : Int32)), (.int (0 : Int32)), (.int (0 : Int32)), (.int (0 : Int32)), (.int (0 : Int32)), (.int (0 : Int32)), (.int (0 : Int32)), (.int (0 : Int32)), (.int (0 : Int32)), (.int (0 : Int32)), (.int (0 : Int32)), (.int (0 : Int32))] (.int (0 : Int32)) ∧ Arv Z h s2 k2 .int (16 : Int32) [(.int (3 : Int32)), (.int (5 : Int32)), (.int (0 : Int32)), (.int (0 : Int32)), (.int (0 : Int32)), (.int (0 : Int32)), (.int (0 : Int32)), (.int (0 : Int32)), (.int (0 : Int32)), (.int (0 : Int32)), (.int (0 : Int32)), (.int (0 : Int32)), (.int (0 : Int32)), (.int (0 : Int32)), (.int (0 : Int32)), (.int (0 : Int32))] (.int (0 : Int32))
set_option maxRecDepth 65536 in
set_option maxHeartbeats 40000000 in
theorem rm5_2_5 (l : Launch) (Z : State) (a0 : Array Value) (hw : ∀ d ∈ tables_1, d.before a0 Z = true) (ws : List Jvm.Cond) (a1 : Addr) (a2 : Addr) (s1 s2 : Addr) (k1 k2 kl : ClassId) (x0 : Int32) (x1 : Int32) (x2 : Int32) (x3 : Int32) (x4 : Int32) (x5 : Int32) (x6 : Int32) (h0 : Heap) (n0 : Nat) (Z0 : n0 ≤ h0.size) (E_a1 : Exa Z h0 a1 "com/example/tidemine/tidemine/TextFormat$Tokens") (g_a1 : n0 ≤ a1) (g_s1 : n0 ≤ s1) (g_s2 : n0 ≤ s2) (F_line : Fld Z h0 a1 "com/example/tidemine/tidemine/TextFormat$Tokens" "line" "[B" .null) (F_starts : Fld Z h0 a1 "com/example/tidemine/tidemine/TextFormat$Tokens" "starts" "[I" (.ref s1)) (F_ends : Fld Z h0 a1 "com/example/tidemine/tidemine/TextFormat$Tokens" "ends" "[I" (.ref s2)) (F_count : Fld Z h0 a1 "com/example/tidemine/tidemine/TextFormat$Tokens" "count" "I" (.int (0 : Int32))) (V_1 : Arv Z h0 s1 k1 .int (16 : Int32) [(.int (0 : Int32)), (.int (0 : Int32)), (.int (0 : Int32)), (.int (0 : Int32)), (.int (0 : Int32)), (.int (0 : Int32)), (.int (0 : Int32)), (.int (0 : Int32)), (.int (0 : Int32)), (.int (0 : Int32)), (.int (0 : Int32)), (.int (0 : Int32)), (.int (0 : Int32)), (.int (0 : Int32)), (.int (0 : Int32)), (.int (0 : Int32))] (.int (0 : Int32))) (V_2 : Arv Z h0 s2 k2 .int (16 : Int32) [(.int (0 : Int32)), (.int (0 : Int32)), (.int (0 : Int32)), (.int (0 : Int32)), (.int (0 : Int32)), (.int (0 : Int32)), (.int (0 : Int32)), (.int (0 : Int32)), (.int (0 : Int32)), (.int (0 : Int32)), (.int (0 : Int32)), (.int (0 : Int32)), (.int (0 : Int32)), (.int (0 : Int32)), (.int (0 : Int32)), (.int (0 : Int32))] (.int (0 : Int32))) (V_l : Arv Z h0 a2 kl .byte (7 : Int32) [(.int x0), (.int x1), (.int x2), (.int x3), (.int x4), (.int x5), (.int x6)] (.int (0 : Int32))) (ne_a1_a2 : a1 ≠ a2) (ne_a1_s1 : a1 ≠ s1) (ne_a1_s2 : a1 ≠ s2) (ne_a2_s1 : a2 ≠ s1) (ne_a2_s2 : a2 ≠ s2) (ne_s1_s2 : s1 ≠ s2) (hx0 : (own_sep x0) = (0 : Int32)) (hx1 : (own_sep x1) = (0 : Int32)) (hx2 : (own_sep x2) = (0 : Int32)) (hx3 : ¬ (own_sep x3) = (0 : Int32)) (hx4 : (own_sep x4) = (0 : Int32)) (hx5 : (own_sep x5) = (0 : Int32)) (hx6 : (own_sep x6) = (0 : Int32)) :
    MetFree l (⟨"com/example/tidemine/tidemine/TextFormat$Tokens", "split", "([BII)V"⟩ : MethodName) (head1 (Jvm.Cond.code (⟨"com/example/tidemine/tidemine/TextFormat$Tokens", "split", "([BII)V"⟩ : MethodName) prog_41_method_2_code 6 none :: ws) ({ frames := 1, cells := 0, slots := 0, locals := 12 } : Room)) (fun a U => a = #[(.ref a1), (.ref a2), (.int (2 : Int32)), (.int (5 : Int32))] ∧ Z.Warmed39 U.vm ∧ U.heap = h0) (fun _ _ _ _ _ => True) (fun _ U o U' => ∃ v L, o = .returned v ∧ Q5_2_5 Z a1 a2 s1 s2 k1 k2 kl x0 x1 x2 x3 x4 x5 x6 h0 n0 v U'.heap L ∧ FrameEnd U o U' L ({ frames := 1, cells := 0, slots := 0, locals := 12 } : Room).cells ({ frames := 1, cells := 0, slots := 0, locals := 12 } : Room).slots) := by
  refine MetFree.of_bodySF (plainFor_of_name pn_2) hisR ?_
  intro p e s m args below meth c s₁ Bd hml0 hP hK
  obtain ⟨rfl, hZ, hh⟩ := hP
  have hx := Bd.exec
  have hby := Bd.bytes
  have hml : c.maxLocals = 6 := hml0
  have hown : s.vm.findClass "com/example/tidemine/tidemine/TextFormat$Tokens" = some m.cls := findClass_of_methodNamed Bd.named
  have hnm := (name_of_methodNamed Bd.named Bd.method).1
  have X0 : Stand p l e ({ frames := 1, cells := 0, slots := 0, locals := 12 } : Room) s m #[(.ref a1), (.ref a2), (.int (2 : Int32)), (.int (5 : Int32))] below meth c s₁ [] 0 0 := Stand.of_body Bd
  have e0 : s₁.heap = h0 := by rw [← hh, Bd.state]; rfl
  have N0 := Fr.nil n0
  have K0 := Keep.refl h0 [a1, s1, s2]
  have pre0 : ∀ t, Steps p.tables e below (s₁.setTop (mkF m 0 #[.val (.ref a1), .val (.ref a2), .val (.int (2 : Int32)), .val (.int (5 : Int32)), .unset, .unset] [])) t → Steps p.tables e below (s₁.setTop (entryFrame m #[(.ref a1), (.ref a2), (.int (2 : Int32)), (.int (5 : Int32))] 6)) t := fun t k => castTop (ef_5_2_5 m a1 a2) k
  obtain ⟨T1, h1, X1, e1, W1, st1⟩ := putF X0 hx hZ hown (host := "") (Or.inl (hw _ (List.mem_of_getElem? (i := 28) rfl))) Via.refl e0 F_line E_a1 (Or.inl (hw _ (List.mem_of_getElem? (i := 29) rfl))) (hw _ (List.mem_of_getElem? (i := 10) rfl)) (ty := (.array .byte)) (by decide) rfl rfl (g := (mkF m 2 #[vR a1, vR a2, vI 2, vI 5, .unset, .unset] [iR a2, iR a1])) rfl rfl (hb hby d5_2)
  have Fw1 := F_line.same W1
  have K1 : Keep h0 h1 [a1, s1, s2] := K0.wr W1 (Or.inl (List.mem_of_getElem? (i := 0) rfl))
  have N1 := Fr.snoc X1 N0 g_a1
  have fk2 := (F_count.other W1 (Or.inr (slot_ne (Or.inl (hw _ (List.mem_of_getElem? (i := 31) rfl))) (Or.inl (hw _ (List.mem_of_getElem? (i := 29) rfl))) (by decide) (t := .int) (t' := (.array .byte)) (by decide) (by decide))))
  have fk3 := (E_a1.wr W1)
  obtain ⟨T4, h4, X4, e4, W4, st4⟩ := putF X1 hx hZ hown (host := "") (Or.inl (hw _ (List.mem_of_getElem? (i := 30) rfl))) Via.refl e1 fk2 fk3 (Or.inl (hw _ (List.mem_of_getElem? (i := 31) rfl))) (hw _ (List.mem_of_getElem? (i := 10) rfl)) (ty := .int) (by decide) rfl rfl (g := (mkF m 7 #[vR a1, vR a2, vI 2, vI 5, .unset, .unset] [iI 0, iR a1])) rfl rfl (hb hby d5_7)
  have Fw4 := fk2.same W4
  have K4 : Keep h0 h4 [a1, s1, s2] := K1.wr W4 (Or.inl (List.mem_of_getElem? (i := 0) rfl))
  have N4 := Fr.snoc X4 N1 g_a1
  have fk5 := ((V_l.other W1 (Ne.symm ne_a1_a2)).other W4 (Ne.symm ne_a1_a2))
  obtain ⟨cl6, Ar6, q6, S6, M6, H6, G6⟩ := id fk5
  have hin7 : ¬ ((2 : Int32) < 0 ∨ cl6.slots.size ≤ ((2 : Int32)).toNatClampNeg) := inb_of S6 ⟨by decide, by decide⟩
  have hat8 : cl6.slots[((2 : Int32)).toNatClampNeg]? = some (.int x2) := Has.at H6 hin7 rfl
  obtain ⟨_, _, ⟨T9, L9, k9, n9⟩, -, X9, ⟨Lc9, hQ9, l9, y9, z9⟩, st9⟩ := callSN X4 hx (y := (⟨"com/example/tidemine/tidemine/TextFormat", "isSeparator", "(B)Z"⟩ : MethodName)) hown (Cond.methodLinkNest_wide hZ (hw _ (List.mem_of_getElem? (i := 32) rfl))) (mvT hZ (hw _ (List.mem_of_getElem? (i := 33) rfl))) (mvT hZ (hw _ (List.mem_of_getElem? (i := 34) rfl))) (mvT hZ (hw _ (List.mem_of_getElem? (i := 35) rfl))) (by decide) (backOf (W := 0) (rm6 l Z a0 hw [] x2 h4 ) hZ (hw _ (List.mem_of_getElem? (i := 35) rfl)) (hw _ (List.mem_of_getElem? (i := 34) rfl)) (by decide) (by decide)) (g := (mkF m 29 #[vR a1, vR a2, vI 2, vI 5, vI 2, .unset] [iI x2])) rfl (by rw [hml]; rfl) (argsL := [(.int x2)]) (rest := []) (lenOf pd_0 rfl) rfl (by show 2 * 0 + _ ≤ _; exact Nat.le_of_eq rfl) (hb hby d5_29) (fun _ _ => ⟨rfl, e4, (by decide : 0 + 0 ≤ _), (by decide : 0 + 0 ≤ _)⟩)
  dsimp only [Pt.U, Pt.locs, Pt.cells, Pt.slots] at X9 l9 y9 z9 st9 hQ9
  subst l9 y9 z9
  obtain ⟨rfl, rfl, e9⟩ := hQ9
  try rw [List.append_nil] at X9
  have hin10 : ¬ ((2 : Int32) < 0 ∨ cl6.slots.size ≤ ((2 : Int32)).toNatClampNeg) := inb_of S6 ⟨by decide, by decide⟩
  have hat11 : cl6.slots[((2 : Int32)).toNatClampNeg]? = some (.int x2) := Has.at H6 hin10 rfl
  obtain ⟨_, _, ⟨T12, L12, k12, n12⟩, -, X12, ⟨Lc12, hQ12, l12, y12, z12⟩, st12⟩ := callSN X9 hx (y := (⟨"com/example/tidemine/tidemine/TextFormat", "isSeparator", "(B)Z"⟩ : MethodName)) hown (Cond.methodLinkNest_wide hZ (hw _ (List.mem_of_getElem? (i := 32) rfl))) (mvT hZ (hw _ (List.mem_of_getElem? (i := 33) rfl))) (mvT hZ (hw _ (List.mem_of_getElem? (i := 34) rfl))) (mvT hZ (hw _ (List.mem_of_getElem? (i := 35) rfl))) (by decide) (backOf (W := 0) (rm6 l Z a0 hw [] x2 h4 ) hZ (hw _ (List.mem_of_getElem? (i := 35) rfl)) (hw _ (List.mem_of_getElem? (i := 34) rfl)) (by decide) (by decide)) (g := (mkF m 55 #[vR a1, vR a2, vI 2, vI 5, vI 2, vI 2] [iI x2])) rfl (by rw [hml]; rfl) (argsL := [(.int x2)]) (rest := []) (lenOf pd_0 rfl) rfl (by show 2 * 0 + _ ≤ _; exact Nat.le_of_eq rfl) (hb hby d5_55) (fun _ _ => ⟨rfl, e9, (by decide : 0 + 0 ≤ _), (by decide : 0 + 0 ≤ _)⟩)
  dsimp only [Pt.U, Pt.locs, Pt.cells, Pt.slots] at X12 l12 y12 z12 st12 hQ12
  subst l12 y12 z12
  obtain ⟨rfl, rfl, e12⟩ := hQ12
  try rw [List.append_nil] at X12
  have hin13 : ¬ ((3 : Int32) < 0 ∨ cl6.slots.size ≤ ((3 : Int32)).toNatClampNeg) := inb_of S6 ⟨by decide, by decide⟩
  have hat14 : cl6.slots[((3 : Int32)).toNatClampNeg]? = some (.int x3) := Has.at H6 hin13 rfl
  obtain ⟨_, _, ⟨T15, L15, k15, n15⟩, -, X15, ⟨Lc15, hQ15, l15, y15, z15⟩, st15⟩ := callSN X12 hx (y := (⟨"com/example/tidemine/tidemine/TextFormat", "isSeparator", "(B)Z"⟩ : MethodName)) hown (Cond.methodLinkNest_wide hZ (hw _ (List.mem_of_getElem? (i := 32) rfl))) (mvT hZ (hw _ (List.mem_of_getElem? (i := 33) rfl))) (mvT hZ (hw _ (List.mem_of_getElem? (i := 34) rfl))) (mvT hZ (hw _ (List.mem_of_getElem? (i := 35) rfl))) (by decide) (backOf (W := 0) (rm6 l Z a0 hw [] x3 h4 ) hZ (hw _ (List.mem_of_getElem? (i := 35) rfl)) (hw _ (List.mem_of_getElem? (i := 34) rfl)) (by decide) (by decide)) (g := (mkF m 55 #[vR a1, vR a2, vI 2, vI 5, vI 3, vI 2] [iI x3])) rfl (by rw [hml]; rfl) (argsL := [(.int x3)]) (rest := []) (lenOf pd_0 rfl) rfl (by show 2 * 0 + _ ≤ _; exact Nat.le_of_eq rfl) (hb hby d5_55) (fun _ _ => ⟨rfl, e12, (by decide : 0 + 0 ≤ _), (by decide : 0 + 0 ≤ _)⟩)
  dsimp only [Pt.U, Pt.locs, Pt.cells, Pt.slots] at X15 l15 y15 z15 st15 hQ15
  subst l15 y15 z15
  obtain ⟨rfl, rfl, e15⟩ := hQ15
  try rw [List.append_nil] at X15
  obtain ⟨T16, X16, e16, st16⟩ := getF X15 hx hZ hown (host := "") (Or.inl (hw _ (List.mem_of_getElem? (i := 30) rfl))) Via.refl e15 Fw4 (g := (mkF m 75 #[vR a1, vR a2, vI 2, vI 5, vI 3, vI 2] [iR a1])) rfl rfl (hb hby d5_75)
  have fk17 := ((F_starts.other W1 (Or.inr (slot_ne (Or.inl (hw _ (List.mem_of_getElem? (i := 20) rfl))) (Or.inl (hw _ (List.mem_of_getElem? (i := 29) rfl))) (by decide) (t := (.array .int)) (t' := (.array .byte)) (by decide) (by decide)))).other W4 (Or.inr (slot_ne (Or.inl (hw _ (List.mem_of_getElem? (i := 20) rfl))) (Or.inl (hw _ (List.mem_of_getElem? (i := 31) rfl))) (by decide) (t := (.array .int)) (t' := .int) (by decide) (by decide))))
  obtain ⟨T18, X18, e18, st18⟩ := getF X16 hx hZ hown (host := "") (Or.inl (hw _ (List.mem_of_getElem? (i := 19) rfl))) Via.refl e16 fk17 (g := (mkF m 79 #[vR a1, vR a2, vI 2, vI 5, vI 3, vI 2] [iR a1, iI 0])) rfl rfl (hb hby d5_79)
  have fk19 := ((V_1.other W1 (Ne.symm ne_a1_s1)).other W4 (Ne.symm ne_a1_s1))
  obtain ⟨cl20, Ar20, q20, S20, M20, H20, G20⟩ := id fk19
  obtain ⟨T21, X21, e21, st21⟩ := getF X18 hx hZ hown (host := "") (Or.inl (hw _ (List.mem_of_getElem? (i := 19) rfl))) Via.refl e18 fk17 (g := (mkF m 121 #[vR a1, vR a2, vI 2, vI 5, vI 3, vI 2] [iR a1])) rfl rfl (hb hby d5_121)
  obtain ⟨T22, X22, e22, st22⟩ := getF X21 hx hZ hown (host := "") (Or.inl (hw _ (List.mem_of_getElem? (i := 30) rfl))) Via.refl e21 Fw4 (g := (mkF m 125 #[vR a1, vR a2, vI 2, vI 5, vI 3, vI 2] [iR a1, iR s1])) rfl rfl (hb hby d5_125)
  have hin23 : ¬ ((0 : Int32) < 0 ∨ cl20.slots.size ≤ ((0 : Int32)).toNatClampNeg) := inb_of S20 ⟨by decide, by decide⟩
  obtain ⟨T24, h24, X24, e24, W24, st24⟩ := stI X22 hx hZ e22 Ar20 (j := (0 : Int32)) hin23 (g := (mkF m 130 #[vR a1, vR a2, vI 2, vI 5, vI 3, vI 2] [iI 2, iI 0, iR s1])) rfl rfl (hb hby d5_130)
  have V24 : Arv Z h24 s1 k1 .int (16 : Int32) [(.int (2 : Int32)), (.int (0 : Int32)), (.int (0 : Int32)), (.int (0 : Int32)), (.int (0 : Int32)), (.int (0 : Int32)), (.int (0 : Int32)), (.int (0 : Int32)), (.int (0 : Int32)), (.int (0 : Int32)), (.int (0 : Int32)), (.int (0 : Int32)), (.int (0 : Int32)), (.int (0 : Int32)), (.int (0 : Int32)), (.int (0 : Int32))] (.int (0 : Int32)) := Arv.set Ar20 q20 S20 M20 H20 G20 rfl W24 0 rfl (Nat.le_of_ble_eq_true rfl)
  have K24 : Keep h0 h24 [a1, s1, s2] := K4.wr W24 (Or.inl (List.mem_of_getElem? (i := 1) rfl))
  have N24 := Fr.snoc X24 N4 g_s1
  have fk25 := (((F_ends.other W1 (Or.inr (slot_ne (Or.inl (hw _ (List.mem_of_getElem? (i := 22) rfl))) (Or.inl (hw _ (List.mem_of_getElem? (i := 29) rfl))) (by decide) (t := (.array .int)) (t' := (.array .byte)) (by decide) (by decide)))).other W4 (Or.inr (slot_ne (Or.inl (hw _ (List.mem_of_getElem? (i := 22) rfl))) (Or.inl (hw _ (List.mem_of_getElem? (i := 31) rfl))) (by decide) (t := (.array .int)) (t' := .int) (by decide) (by decide)))).other W24 (Or.inl ne_a1_s1))
  obtain ⟨T26, X26, e26, st26⟩ := getF X24 hx hZ hown (host := "") (Or.inl (hw _ (List.mem_of_getElem? (i := 21) rfl))) Via.refl e24 fk25 (g := (mkF m 132 #[vR a1, vR a2, vI 2, vI 5, vI 3, vI 2] [iR a1])) rfl rfl (hb hby d5_132)
  have fk27 := (Fw4.other W24 (Or.inl ne_a1_s1))
  obtain ⟨T28, X28, e28, st28⟩ := getF X26 hx hZ hown (host := "") (Or.inl (hw _ (List.mem_of_getElem? (i := 30) rfl))) Via.refl e26 fk27 (g := (mkF m 136 #[vR a1, vR a2, vI 2, vI 5, vI 3, vI 2] [iR a1, iR s2])) rfl rfl (hb hby d5_136)
  have fk29 := (((V_2.other W1 (Ne.symm ne_a1_s2)).other W4 (Ne.symm ne_a1_s2)).other W24 (Ne.symm ne_s1_s2))
  obtain ⟨cl30, Ar30, q30, S30, M30, H30, G30⟩ := id fk29
  have hin31 : ¬ ((0 : Int32) < 0 ∨ cl30.slots.size ≤ ((0 : Int32)).toNatClampNeg) := inb_of S30 ⟨by decide, by decide⟩
  obtain ⟨T32, h32, X32, e32, W32, st32⟩ := stI X28 hx hZ e28 Ar30 (j := (0 : Int32)) hin31 (g := (mkF m 141 #[vR a1, vR a2, vI 2, vI 5, vI 3, vI 2] [iI 3, iI 0, iR s2])) rfl rfl (hb hby d5_141)
  have V32 : Arv Z h32 s2 k2 .int (16 : Int32) [(.int (3 : Int32)), (.int (0 : Int32)), (.int (0 : Int32)), (.int (0 : Int32)), (.int (0 : Int32)), (.int (0 : Int32)), (.int (0 : Int32)), (.int (0 : Int32)), (.int (0 : Int32)), (.int (0 : Int32)), (.int (0 : Int32)), (.int (0 : Int32)), (.int (0 : Int32)), (.int (0 : Int32)), (.int (0 : Int32)), (.int (0 : Int32))] (.int (0 : Int32)) := Arv.set Ar30 q30 S30 M30 H30 G30 rfl W32 0 rfl (Nat.le_of_ble_eq_true rfl)
  have K32 : Keep h0 h32 [a1, s1, s2] := K24.wr W32 (Or.inl (List.mem_of_getElem? (i := 2) rfl))
  have N32 := Fr.snoc X32 N24 g_s2
  have fk33 := (fk27.other W32 (Or.inl ne_a1_s2))
  obtain ⟨T34, X34, e34, st34⟩ := getF X32 hx hZ hown (host := "") (Or.inl (hw _ (List.mem_of_getElem? (i := 30) rfl))) Via.refl e32 fk33 (g := (mkF m 144 #[vR a1, vR a2, vI 2, vI 5, vI 3, vI 2] [iR a1, iR a1])) rfl rfl (hb hby d5_144)
  have fk35 := (((fk3.wr W4).wr W24).wr W32)
  obtain ⟨T36, h36, X36, e36, W36, st36⟩ := putF X34 hx hZ hown (host := "") (Or.inl (hw _ (List.mem_of_getElem? (i := 30) rfl))) Via.refl e34 fk33 fk35 (Or.inl (hw _ (List.mem_of_getElem? (i := 31) rfl))) (hw _ (List.mem_of_getElem? (i := 10) rfl)) (ty := .int) (by decide) rfl rfl (g := (mkF m 149 #[vR a1, vR a2, vI 2, vI 5, vI 3, vI 2] [iI 1, iR a1])) rfl rfl (hb hby d5_149)
  have Fw36 := fk33.same W36
  have K36 : Keep h0 h36 [a1, s1, s2] := K32.wr W36 (Or.inl (List.mem_of_getElem? (i := 0) rfl))
  have N36 := Fr.snoc X36 N32 g_a1
  have fk37 := (((fk5.other W24 ne_a2_s1).other W32 ne_a2_s2).other W36 (Ne.symm ne_a1_a2))
  obtain ⟨cl38, Ar38, q38, S38, M38, H38, G38⟩ := id fk37
  have hin39 : ¬ ((3 : Int32) < 0 ∨ cl38.slots.size ≤ ((3 : Int32)).toNatClampNeg) := inb_of S38 ⟨by decide, by decide⟩
  have hat40 : cl38.slots[((3 : Int32)).toNatClampNeg]? = some (.int x3) := Has.at H38 hin39 rfl
  obtain ⟨_, _, ⟨T41, L41, k41, n41⟩, -, X41, ⟨Lc41, hQ41, l41, y41, z41⟩, st41⟩ := callSN X36 hx (y := (⟨"com/example/tidemine/tidemine/TextFormat", "isSeparator", "(B)Z"⟩ : MethodName)) hown (Cond.methodLinkNest_wide hZ (hw _ (List.mem_of_getElem? (i := 32) rfl))) (mvT hZ (hw _ (List.mem_of_getElem? (i := 33) rfl))) (mvT hZ (hw _ (List.mem_of_getElem? (i := 34) rfl))) (mvT hZ (hw _ (List.mem_of_getElem? (i := 35) rfl))) (by decide) (backOf (W := 0) (rm6 l Z a0 hw [] x3 h36 ) hZ (hw _ (List.mem_of_getElem? (i := 35) rfl)) (hw _ (List.mem_of_getElem? (i := 34) rfl)) (by decide) (by decide)) (g := (mkF m 29 #[vR a1, vR a2, vI 2, vI 5, vI 3, vI 2] [iI x3])) rfl (by rw [hml]; rfl) (argsL := [(.int x3)]) (rest := []) (lenOf pd_0 rfl) rfl (by show 2 * 0 + _ ≤ _; exact Nat.le_of_eq rfl) (hb hby d5_29) (fun _ _ => ⟨rfl, e36, (by decide : 0 + 0 ≤ _), (by decide : 0 + 0 ≤ _)⟩)
  dsimp only [Pt.U, Pt.locs, Pt.cells, Pt.slots] at X41 l41 y41 z41 st41 hQ41
  subst l41 y41 z41
  obtain ⟨rfl, rfl, e41⟩ := hQ41
  try rw [List.append_nil] at X41
  have hin42 : ¬ ((4 : Int32) < 0 ∨ cl38.slots.size ≤ ((4 : Int32)).toNatClampNeg) := inb_of S38 ⟨by decide, by decide⟩
  have hat43 : cl38.slots[((4 : Int32)).toNatClampNeg]? = some (.int x4) := Has.at H38 hin42 rfl
  obtain ⟨_, _, ⟨T44, L44, k44, n44⟩, -, X44, ⟨Lc44, hQ44, l44, y44, z44⟩, st44⟩ := callSN X41 hx (y := (⟨"com/example/tidemine/tidemine/TextFormat", "isSeparator", "(B)Z"⟩ : MethodName)) hown (Cond.methodLinkNest_wide hZ (hw _ (List.mem_of_getElem? (i := 32) rfl))) (mvT hZ (hw _ (List.mem_of_getElem? (i := 33) rfl))) (mvT hZ (hw _ (List.mem_of_getElem? (i := 34) rfl))) (mvT hZ (hw _ (List.mem_of_getElem? (i := 35) rfl))) (by decide) (backOf (W := 0) (rm6 l Z a0 hw [] x4 h36 ) hZ (hw _ (List.mem_of_getElem? (i := 35) rfl)) (hw _ (List.mem_of_getElem? (i := 34) rfl)) (by decide) (by decide)) (g := (mkF m 29 #[vR a1, vR a2, vI 2, vI 5, vI 4, vI 2] [iI x4])) rfl (by rw [hml]; rfl) (argsL := [(.int x4)]) (rest := []) (lenOf pd_0 rfl) rfl (by show 2 * 0 + _ ≤ _; exact Nat.le_of_eq rfl) (hb hby d5_29) (fun _ _ => ⟨rfl, e41, (by decide : 0 + 0 ≤ _), (by decide : 0 + 0 ≤ _)⟩)
  dsimp only [Pt.U, Pt.locs, Pt.cells, Pt.slots] at X44 l44 y44 z44 st44 hQ44
  subst l44 y44 z44
  obtain ⟨rfl, rfl, e44⟩ := hQ44
  try rw [List.append_nil] at X44
  have hin45 : ¬ ((4 : Int32) < 0 ∨ cl38.slots.size ≤ ((4 : Int32)).toNatClampNeg) := inb_of S38 ⟨by decide, by decide⟩
  have hat46 : cl38.slots[((4 : Int32)).toNatClampNeg]? = some (.int x4) := Has.at H38 hin45 rfl
  obtain ⟨_, _, ⟨T47, L47, k47, n47⟩, -, X47, ⟨Lc47, hQ47, l47, y47, z47⟩, st47⟩ := callSN X44 hx (y := (⟨"com/example/tidemine/tidemine/TextFormat", "isSeparator", "(B)Z"⟩ : MethodName)) hown (Cond.methodLinkNest_wide hZ (hw _ (List.mem_of_getElem? (i := 32) rfl))) (mvT hZ (hw _ (List.mem_of_getElem? (i := 33) rfl))) (mvT hZ (hw _ (List.mem_of_getElem? (i := 34) rfl))) (mvT hZ (hw _ (List.mem_of_getElem? (i := 35) rfl))) (by decide) (backOf (W := 0) (rm6 l Z a0 hw [] x4 h36 ) hZ (hw _ (List.mem_of_getElem? (i := 35) rfl)) (hw _ (List.mem_of_getElem? (i := 34) rfl)) (by decide) (by decide)) (g := (mkF m 55 #[vR a1, vR a2, vI 2, vI 5, vI 4, vI 4] [iI x4])) rfl (by rw [hml]; rfl) (argsL := [(.int x4)]) (rest := []) (lenOf pd_0 rfl) rfl (by show 2 * 0 + _ ≤ _; exact Nat.le_of_eq rfl) (hb hby d5_55) (fun _ _ => ⟨rfl, e44, (by decide : 0 + 0 ≤ _), (by decide : 0 + 0 ≤ _)⟩)
  dsimp only [Pt.U, Pt.locs, Pt.cells, Pt.slots] at X47 l47 y47 z47 st47 hQ47
  subst l47 y47 z47
  obtain ⟨rfl, rfl, e47⟩ := hQ47
  try rw [List.append_nil] at X47
  obtain ⟨T48, X48, e48, st48⟩ := getF X47 hx hZ hown (host := "") (Or.inl (hw _ (List.mem_of_getElem? (i := 30) rfl))) Via.refl e47 Fw36 (g := (mkF m 75 #[vR a1, vR a2, vI 2, vI 5, vI 5, vI 4] [iR a1])) rfl rfl (hb hby d5_75)
  have fk49 := (((fk17.other W24 (Or.inl ne_a1_s1)).other W32 (Or.inl ne_a1_s2)).other W36 (Or.inr (slot_ne (Or.inl (hw _ (List.mem_of_getElem? (i := 20) rfl))) (Or.inl (hw _ (List.mem_of_getElem? (i := 31) rfl))) (by decide) (t := (.array .int)) (t' := .int) (by decide) (by decide))))
  obtain ⟨T50, X50, e50, st50⟩ := getF X48 hx hZ hown (host := "") (Or.inl (hw _ (List.mem_of_getElem? (i := 19) rfl))) Via.refl e48 fk49 (g := (mkF m 79 #[vR a1, vR a2, vI 2, vI 5, vI 5, vI 4] [iR a1, iI 1])) rfl rfl (hb hby d5_79)
  have fk51 := ((V24.other W32 ne_s1_s2).other W36 (Ne.symm ne_a1_s1))
  obtain ⟨cl52, Ar52, q52, S52, M52, H52, G52⟩ := id fk51
  obtain ⟨T53, X53, e53, st53⟩ := getF X50 hx hZ hown (host := "") (Or.inl (hw _ (List.mem_of_getElem? (i := 19) rfl))) Via.refl e50 fk49 (g := (mkF m 121 #[vR a1, vR a2, vI 2, vI 5, vI 5, vI 4] [iR a1])) rfl rfl (hb hby d5_121)
  obtain ⟨T54, X54, e54, st54⟩ := getF X53 hx hZ hown (host := "") (Or.inl (hw _ (List.mem_of_getElem? (i := 30) rfl))) Via.refl e53 Fw36 (g := (mkF m 125 #[vR a1, vR a2, vI 2, vI 5, vI 5, vI 4] [iR a1, iR s1])) rfl rfl (hb hby d5_125)
  have hin55 : ¬ ((1 : Int32) < 0 ∨ cl52.slots.size ≤ ((1 : Int32)).toNatClampNeg) := inb_of S52 ⟨by decide, by decide⟩
  obtain ⟨T56, h56, X56, e56, W56, st56⟩ := stI X54 hx hZ e54 Ar52 (j := (1 : Int32)) hin55 (g := (mkF m 130 #[vR a1, vR a2, vI 2, vI 5, vI 5, vI 4] [iI 4, iI 1, iR s1])) rfl rfl (hb hby d5_130)
  have V56 : Arv Z h56 s1 k1 .int (16 : Int32) [(.int (2 : Int32)), (.int (4 : Int32)), (.int (0 : Int32)), (.int (0 : Int32)), (.int (0 : Int32)), (.int (0 : Int32)), (.int (0 : Int32)), (.int (0 : Int32)), (.int (0 : Int32)), (.int (0 : Int32)), (.int (0 : Int32)), (.int (0 : Int32)), (.int (0 : Int32)), (.int (0 : Int32)), (.int (0 : Int32)), (.int (0 : Int32))] (.int (0 : Int32)) := Arv.set Ar52 q52 S52 M52 H52 G52 rfl W56 1 rfl (Nat.le_of_ble_eq_true rfl)
  have K56 : Keep h0 h56 [a1, s1, s2] := K36.wr W56 (Or.inl (List.mem_of_getElem? (i := 1) rfl))
  have N56 := Fr.snoc X56 N36 g_s1
  have fk57 := (((fk25.other W32 (Or.inl ne_a1_s2)).other W36 (Or.inr (slot_ne (Or.inl (hw _ (List.mem_of_getElem? (i := 22) rfl))) (Or.inl (hw _ (List.mem_of_getElem? (i := 31) rfl))) (by decide) (t := (.array .int)) (t' := .int) (by decide) (by decide)))).other W56 (Or.inl ne_a1_s1))
  obtain ⟨T58, X58, e58, st58⟩ := getF X56 hx hZ hown (host := "") (Or.inl (hw _ (List.mem_of_getElem? (i := 21) rfl))) Via.refl e56 fk57 (g := (mkF m 132 #[vR a1, vR a2, vI 2, vI 5, vI 5, vI 4] [iR a1])) rfl rfl (hb hby d5_132)
  have fk59 := (Fw36.other W56 (Or.inl ne_a1_s1))
  obtain ⟨T60, X60, e60, st60⟩ := getF X58 hx hZ hown (host := "") (Or.inl (hw _ (List.mem_of_getElem? (i := 30) rfl))) Via.refl e58 fk59 (g := (mkF m 136 #[vR a1, vR a2, vI 2, vI 5, vI 5, vI 4] [iR a1, iR s2])) rfl rfl (hb hby d5_136)
  have fk61 := ((V32.other W36 (Ne.symm ne_a1_s2)).other W56 (Ne.symm ne_s1_s2))
  obtain ⟨cl62, Ar62, q62, S62, M62, H62, G62⟩ := id fk61
  have hin63 : ¬ ((1 : Int32) < 0 ∨ cl62.slots.size ≤ ((1 : Int32)).toNatClampNeg) := inb_of S62 ⟨by decide, by decide⟩
  obtain ⟨T64, h64, X64, e64, W64, st64⟩ := stI X60 hx hZ e60 Ar62 (j := (1 : Int32)) hin63 (g := (mkF m 141 #[vR a1, vR a2, vI 2, vI 5, vI 5, vI 4] [iI 5, iI 1, iR s2])) rfl rfl (hb hby d5_141)
  have V64 : Arv Z h64 s2 k2 .int (16 : Int32) [(.int (3 : Int32)), (.int (5 : Int32)), (.int (0 : Int32)), (.int (0 : Int32)), (.int (0 : Int32)), (.int (0 : Int32)), (.int (0 : Int32)), (.int (0 : Int32)), (.int (0 : Int32)), (.int (0 : Int32)), (.int (0 : Int32)), (.int (0 : Int32)), (.int (0 : Int32)), (.int (0 : Int32)), (.int (0 : Int32)), (.int (0 : Int32))] (.int (0 : Int32)) := Arv.set Ar62 q62 S62 M62 H62 G62 rfl W64 1 rfl (Nat.le_of_ble_eq_true rfl)
  have K64 : Keep h0 h64 [a1, s1, s2] := K56.wr W64 (Or.inl (List.mem_of_getElem? (i := 2) rfl))
  have N64 := Fr.snoc X64 N56 g_s2
  have fk65 := (fk59.other W64 (Or.inl ne_a1_s2))
  obtain ⟨T66, X66, e66, st66⟩ := getF X64 hx hZ hown (host := "") (Or.inl (hw _ (List.mem_of_getElem? (i := 30) rfl))) Via.refl e64 fk65 (g := (mkF m 144 #[vR a1, vR a2, vI 2, vI 5, vI 5, vI 4] [iR a1, iR a1])) rfl rfl (hb hby d5_144)
  have fk67 := (((fk35.wr W36).wr W56).wr W64)
  obtain ⟨T68, h68, X68, e68, W68, st68⟩ := putF X66 hx hZ hown (host := "") (Or.inl (hw _ (List.mem_of_getElem? (i := 30) rfl))) Via.refl e66 fk65 fk67 (Or.inl (hw _ (List.mem_of_getElem? (i := 31) rfl))) (hw _ (List.mem_of_getElem? (i := 10) rfl)) (ty := .int) (by decide) rfl rfl (g := (mkF m 149 #[vR a1, vR a2, vI 2, vI 5, vI 5, vI 4] [iI 2, iR a1])) rfl rfl (hb hby d5_149)
  have Fw68 := fk65.same W68
  have K68 : Keep h0 h68 [a1, s1, s2] := K64.wr W68 (Or.inl (List.mem_of_getElem? (i := 0) rfl))
  have N68 := Fr.snoc X68 N64 g_a1
  obtain ⟨fs, hr, hrun, hended, hW, hsame⟩ := X68.leave (v := none) (fun _ => rfl)
  have fk69 := (fk67.wr W68)
  have fk70 := (((((((Fw1.other W4 (Or.inr (slot_ne (Or.inl (hw _ (List.mem_of_getElem? (i := 29) rfl))) (Or.inl (hw _ (List.mem_of_getElem? (i := 31) rfl))) (by decide) (t := (.array .byte)) (t' := .int) (by decide) (by decide)))).other W24 (Or.inl ne_a1_s1)).other W32 (Or.inl ne_a1_s2)).other W36 (Or.inr (slot_ne (Or.inl (hw _ (List.mem_of_getElem? (i := 29) rfl))) (Or.inl (hw _ (List.mem_of_getElem? (i := 31) rfl))) (by decide) (t := (.array .byte)) (t' := .int) (by decide) (by decide)))).other W56 (Or.inl ne_a1_s1)).other W64 (Or.inl ne_a1_s2)).other W68 (Or.inr (slot_ne (Or.inl (hw _ (List.mem_of_getElem? (i := 29) rfl))) (Or.inl (hw _ (List.mem_of_getElem? (i := 31) rfl))) (by decide) (t := (.array .byte)) (t' := .int) (by decide) (by decide))))
  have fk71 := (((fk49.other W56 (Or.inl ne_a1_s1)).other W64 (Or.inl ne_a1_s2)).other W68 (Or.inr (slot_ne (Or.inl (hw _ (List.mem_of_getElem? (i := 20) rfl))) (Or.inl (hw _ (List.mem_of_getElem? (i := 31) rfl))) (by decide) (t := (.array .int)) (t' := .int) (by decide) (by decide))))
  have fk72 := ((fk57.other W64 (Or.inl ne_a1_s2)).other W68 (Or.inr (slot_ne (Or.inl (hw _ (List.mem_of_getElem? (i := 22) rfl))) (Or.inl (hw _ (List.mem_of_getElem? (i := 31) rfl))) (by decide) (t := (.array .int)) (t' := .int) (by decide) (by decide))))
  have fk73 := ((V56.other W64 ne_s1_s2).other W68 (Ne.symm ne_a1_s1))
  have fk74 := (V64.other W68 (Ne.symm ne_a1_s2))
  refine ⟨_, _, pre0 _ ?_, hrun, hended, _, _, rfl, ?_, ⟨_, rfl⟩, hW, hsame.mono (by decide) (by decide)⟩
  · show Steps _ _ _ (s₁.setTop (mkF m 0 #[vR a1, vR a2, vI 2, vI 5, .unset, .unset] [])) _
    refine XS.aloadN X0.here hx rfl (hb hby d5_0) rfl rfl ?_
    show Steps _ _ _ (s₁.setTop (mkF m 1 #[vR a1, vR a2, vI 2, vI 5, .unset, .unset] [iR a1])) _
    refine XS.aloadN X0.here hx rfl (hb hby d5_1) rfl rfl ?_
    show Steps _ _ _ (s₁.setTop (mkF m 2 #[vR a1, vR a2, vI 2, vI 5, .unset, .unset] [iR a2, iR a1])) _
    refine st1 _ ?_
    show Steps _ _ _ (T1.setTop (mkF m 5 #[vR a1, vR a2, vI 2, vI 5, .unset, .unset] [])) _
    refine XS.aloadN X1.here hx rfl (hb hby d5_5) rfl rfl ?_
    show Steps _ _ _ (T1.setTop (mkF m 6 #[vR a1, vR a2, vI 2, vI 5, .unset, .unset] [iR a1])) _
    refine XS.iconst X1.here hx rfl (hb hby d5_6) ?_
    show Steps _ _ _ (T1.setTop (mkF m 7 #[vR a1, vR a2, vI 2, vI 5, .unset, .unset] [iI 0, iR a1])) _
    refine st4 _ ?_
    show Steps _ _ _ (T4.setTop (mkF m 10 #[vR a1, vR a2, vI 2, vI 5, .unset, .unset] [])) _
    refine XS.iloadN X4.here hx rfl (hb hby d5_10) rfl ?_
    show Steps _ _ _ (T4.setTop (mkF m 11 #[vR a1, vR a2, vI 2, vI 5, .unset, .unset] [iI 2])) _
    refine XS.istore X4.here hx rfl (hb hby d5_11) rfl (l' := #[vR a1, vR a2, vI 2, vI 5, vI 2, .unset]) rfl ?_
    show Steps _ _ _ (T4.setTop (mkF m 13 #[vR a1, vR a2, vI 2, vI 5, vI 2, .unset] [])) _
    refine XS.iload X4.here hx rfl (hb hby d5_13) rfl ?_
    show Steps _ _ _ (T4.setTop (mkF m 15 #[vR a1, vR a2, vI 2, vI 5, vI 2, .unset] [iI 2])) _
    refine XS.iloadN X4.here hx rfl (hb hby d5_15) rfl ?_
    show Steps _ _ _ (T4.setTop (mkF m 16 #[vR a1, vR a2, vI 2, vI 5, vI 2, .unset] [iI 5, iI 2])) _
    refine XS.icmpNo X4.here hx rfl (hb hby d5_16) rfl (tlt (by decide : (2 : Int32) < (5 : Int32))).2.1 ?_
    show Steps _ _ _ (T4.setTop (mkF m 19 #[vR a1, vR a2, vI 2, vI 5, vI 2, .unset] [])) _
    refine XS.iload X4.here hx rfl (hb hby d5_19) rfl ?_
    show Steps _ _ _ (T4.setTop (mkF m 21 #[vR a1, vR a2, vI 2, vI 5, vI 2, .unset] [iI 2])) _
    refine XS.iloadN X4.here hx rfl (hb hby d5_21) rfl ?_
    show Steps _ _ _ (T4.setTop (mkF m 22 #[vR a1, vR a2, vI 2, vI 5, vI 2, .unset] [iI 5, iI 2])) _
    refine XS.icmpNo X4.here hx rfl (hb hby d5_22) rfl (tlt (by decide : (2 : Int32) < (5 : Int32))).2.1 ?_
    show Steps _ _ _ (T4.setTop (mkF m 25 #[vR a1, vR a2, vI 2, vI 5, vI 2, .unset] [])) _
    refine XS.aloadN X4.here hx rfl (hb hby d5_25) rfl rfl ?_
    show Steps _ _ _ (T4.setTop (mkF m 26 #[vR a1, vR a2, vI 2, vI 5, vI 2, .unset] [iR a2])) _
    refine XS.iload X4.here hx rfl (hb hby d5_26) rfl ?_
    show Steps _ _ _ (T4.setTop (mkF m 28 #[vR a1, vR a2, vI 2, vI 5, vI 2, .unset] [iI 2, iR a2])) _
    refine X4.baloadBytes hx (j := (2 : Int32)) (v := (.int x2)) (by rw [e4]; exact Ar6.1) (State.isArrayOf_alike hZ.alike Ar6.2.1) Ar6.2.2 hin7 hat8 (g := (mkF m 28 #[vR a1, vR a2, vI 2, vI 5, vI 2, .unset] [iI 2, iR a2])) rfl rfl (hb hby d5_28) _ ?_
    show Steps _ _ _ (T4.setTop (mkF m 29 #[vR a1, vR a2, vI 2, vI 5, vI 2, .unset] [iI x2])) _
    refine st9.trans ?_
    show Steps _ _ _ (T9.setTop (mkF m 32 #[vR a1, vR a2, vI 2, vI 5, vI 2, .unset] [iI (own_sep x2)])) _
    refine XS.ifYes X9.here hx rfl (pc0 := 32) (pc' := 41) rfl (hb hby d5_32) rfl ((if0 _ _).trans (teq hx2).1) (by decide) (by decide) ?_
    show Steps _ _ _ (T9.setTop (mkF m 41 #[vR a1, vR a2, vI 2, vI 5, vI 2, .unset] [])) _
    refine XS.iload X9.here hx rfl (hb hby d5_41) rfl ?_
    show Steps _ _ _ (T9.setTop (mkF m 43 #[vR a1, vR a2, vI 2, vI 5, vI 2, .unset] [iI 2])) _
    refine XS.istore X9.here hx rfl (hb hby d5_43) rfl (l' := #[vR a1, vR a2, vI 2, vI 5, vI 2, vI 2]) rfl ?_
    show Steps _ _ _ (T9.setTop (mkF m 45 #[vR a1, vR a2, vI 2, vI 5, vI 2, vI 2] [])) _
    refine XS.iload X9.here hx rfl (hb hby d5_45) rfl ?_
    show Steps _ _ _ (T9.setTop (mkF m 47 #[vR a1, vR a2, vI 2, vI 5, vI 2, vI 2] [iI 2])) _
    refine XS.iloadN X9.here hx rfl (hb hby d5_47) rfl ?_
    show Steps _ _ _ (T9.setTop (mkF m 48 #[vR a1, vR a2, vI 2, vI 5, vI 2, vI 2] [iI 5, iI 2])) _
    refine XS.icmpNo X9.here hx rfl (hb hby d5_48) rfl (tlt (by decide : (2 : Int32) < (5 : Int32))).2.1 ?_
    show Steps _ _ _ (T9.setTop (mkF m 51 #[vR a1, vR a2, vI 2, vI 5, vI 2, vI 2] [])) _
    refine XS.aloadN X9.here hx rfl (hb hby d5_51) rfl rfl ?_
    show Steps _ _ _ (T9.setTop (mkF m 52 #[vR a1, vR a2, vI 2, vI 5, vI 2, vI 2] [iR a2])) _
    refine XS.iload X9.here hx rfl (hb hby d5_52) rfl ?_
    show Steps _ _ _ (T9.setTop (mkF m 54 #[vR a1, vR a2, vI 2, vI 5, vI 2, vI 2] [iI 2, iR a2])) _
    refine X9.baloadBytes hx (j := (2 : Int32)) (v := (.int x2)) (by rw [e9]; exact Ar6.1) (State.isArrayOf_alike hZ.alike Ar6.2.1) Ar6.2.2 hin10 hat11 (g := (mkF m 54 #[vR a1, vR a2, vI 2, vI 5, vI 2, vI 2] [iI 2, iR a2])) rfl rfl (hb hby d5_54) _ ?_
    show Steps _ _ _ (T9.setTop (mkF m 55 #[vR a1, vR a2, vI 2, vI 5, vI 2, vI 2] [iI x2])) _
    refine st12.trans ?_
    show Steps _ _ _ (T12.setTop (mkF m 58 #[vR a1, vR a2, vI 2, vI 5, vI 2, vI 2] [iI (own_sep x2)])) _
    refine XS.ifNo X12.here hx rfl (hb hby d5_58) rfl ((if0 _ _).trans (teq hx2).2) ?_
    show Steps _ _ _ (T12.setTop (mkF m 61 #[vR a1, vR a2, vI 2, vI 5, vI 2, vI 2] [])) _
    refine XS.iinc X12.here hx rfl (hb hby d5_61) rfl (l' := #[vR a1, vR a2, vI 2, vI 5, vI ((2 : Int32) + (1 : Int32)), vI 2]) rfl ?_
    rw [(by decide : ((2 : Int32) + (1 : Int32)) = (3 : Int32))]
    show Steps _ _ _ (T12.setTop (mkF m 64 #[vR a1, vR a2, vI 2, vI 5, vI 3, vI 2] [])) _
    refine XS.goto X12.here hx rfl (pc0 := 64) (pc' := 45) rfl (hb hby d5_64) (by decide) (by decide) ?_
    show Steps _ _ _ (T12.setTop (mkF m 45 #[vR a1, vR a2, vI 2, vI 5, vI 3, vI 2] [])) _
    refine XS.iload X12.here hx rfl (hb hby d5_45) rfl ?_
    show Steps _ _ _ (T12.setTop (mkF m 47 #[vR a1, vR a2, vI 2, vI 5, vI 3, vI 2] [iI 3])) _
    refine XS.iloadN X12.here hx rfl (hb hby d5_47) rfl ?_
    show Steps _ _ _ (T12.setTop (mkF m 48 #[vR a1, vR a2, vI 2, vI 5, vI 3, vI 2] [iI 5, iI 3])) _
    refine XS.icmpNo X12.here hx rfl (hb hby d5_48) rfl (tlt (by decide : (3 : Int32) < (5 : Int32))).2.1 ?_
    show Steps _ _ _ (T12.setTop (mkF m 51 #[vR a1, vR a2, vI 2, vI 5, vI 3, vI 2] [])) _
    refine XS.aloadN X12.here hx rfl (hb hby d5_51) rfl rfl ?_
    show Steps _ _ _ (T12.setTop (mkF m 52 #[vR a1, vR a2, vI 2, vI 5, vI 3, vI 2] [iR a2])) _
    refine XS.iload X12.here hx rfl (hb hby d5_52) rfl ?_
    show Steps _ _ _ (T12.setTop (mkF m 54 #[vR a1, vR a2, vI 2, vI 5, vI 3, vI 2] [iI 3, iR a2])) _
    refine X12.baloadBytes hx (j := (3 : Int32)) (v := (.int x3)) (by rw [e12]; exact Ar6.1) (State.isArrayOf_alike hZ.alike Ar6.2.1) Ar6.2.2 hin13 hat14 (g := (mkF m 54 #[vR a1, vR a2, vI 2, vI 5, vI 3, vI 2] [iI 3, iR a2])) rfl rfl (hb hby d5_54) _ ?_
    show Steps _ _ _ (T12.setTop (mkF m 55 #[vR a1, vR a2, vI 2, vI 5, vI 3, vI 2] [iI x3])) _
    refine st15.trans ?_
    show Steps _ _ _ (T15.setTop (mkF m 58 #[vR a1, vR a2, vI 2, vI 5, vI 3, vI 2] [iI (own_sep x3)])) _
    refine XS.ifYes X15.here hx rfl (pc0 := 58) (pc' := 67) rfl (hb hby d5_58) rfl ((if0 _ _).trans (feq hx3).2) (by decide) (by decide) ?_
    show Steps _ _ _ (T15.setTop (mkF m 67 #[vR a1, vR a2, vI 2, vI 5, vI 3, vI 2] [])) _
    refine XS.iload X15.here hx rfl (hb hby d5_67) rfl ?_
    show Steps _ _ _ (T15.setTop (mkF m 69 #[vR a1, vR a2, vI 2, vI 5, vI 3, vI 2] [iI 3])) _
    refine XS.iload X15.here hx rfl (hb hby d5_69) rfl ?_
    show Steps _ _ _ (T15.setTop (mkF m 71 #[vR a1, vR a2, vI 2, vI 5, vI 3, vI 2] [iI 2, iI 3])) _
    refine XS.icmpNo X15.here hx rfl (hb hby d5_71) rfl (tlt (by decide : (2 : Int32) < (3 : Int32))).2.2.2 ?_
    show Steps _ _ _ (T15.setTop (mkF m 74 #[vR a1, vR a2, vI 2, vI 5, vI 3, vI 2] [])) _
    refine XS.aloadN X15.here hx rfl (hb hby d5_74) rfl rfl ?_
    show Steps _ _ _ (T15.setTop (mkF m 75 #[vR a1, vR a2, vI 2, vI 5, vI 3, vI 2] [iR a1])) _
    refine st16 _ ?_
    show Steps _ _ _ (T16.setTop (mkF m 78 #[vR a1, vR a2, vI 2, vI 5, vI 3, vI 2] [iI 0])) _
    refine XS.aloadN X16.here hx rfl (hb hby d5_78) rfl rfl ?_
    show Steps _ _ _ (T16.setTop (mkF m 79 #[vR a1, vR a2, vI 2, vI 5, vI 3, vI 2] [iR a1, iI 0])) _
    refine st18 _ ?_
    show Steps _ _ _ (T18.setTop (mkF m 82 #[vR a1, vR a2, vI 2, vI 5, vI 3, vI 2] [iR s1, iI 0])) _
    refine X18.arraylength hx (by rw [e18]; exact Ar20.1) (State.isArrayOf_alike hZ.alike Ar20.2.1) (g := (mkF m 82 #[vR a1, vR a2, vI 2, vI 5, vI 3, vI 2] [iR s1, iI 0])) rfl rfl (hb hby d5_82) _ ?_
    rw [len_of S20 M20]
    show Steps _ _ _ (T18.setTop (mkF m 83 #[vR a1, vR a2, vI 2, vI 5, vI 3, vI 2] [iI 16, iI 0])) _
    refine XS.icmpYes X18.here hx rfl (pc0 := 83) (pc' := 120) rfl (hb hby d5_83) rfl (feq (by decide : ¬ ((0 : Int32) = (16 : Int32)))).2 (by decide) (by decide) ?_
    show Steps _ _ _ (T18.setTop (mkF m 120 #[vR a1, vR a2, vI 2, vI 5, vI 3, vI 2] [])) _
    refine XS.aloadN X18.here hx rfl (hb hby d5_120) rfl rfl ?_
    show Steps _ _ _ (T18.setTop (mkF m 121 #[vR a1, vR a2, vI 2, vI 5, vI 3, vI 2] [iR a1])) _
    refine st21 _ ?_
    show Steps _ _ _ (T21.setTop (mkF m 124 #[vR a1, vR a2, vI 2, vI 5, vI 3, vI 2] [iR s1])) _
    refine XS.aloadN X21.here hx rfl (hb hby d5_124) rfl rfl ?_
    show Steps _ _ _ (T21.setTop (mkF m 125 #[vR a1, vR a2, vI 2, vI 5, vI 3, vI 2] [iR a1, iR s1])) _
    refine st22 _ ?_
    show Steps _ _ _ (T22.setTop (mkF m 128 #[vR a1, vR a2, vI 2, vI 5, vI 3, vI 2] [iI 0, iR s1])) _
    refine XS.iload X22.here hx rfl (hb hby d5_128) rfl ?_
    show Steps _ _ _ (T22.setTop (mkF m 130 #[vR a1, vR a2, vI 2, vI 5, vI 3, vI 2] [iI 2, iI 0, iR s1])) _
    refine st24 _ ?_
    show Steps _ _ _ (T24.setTop (mkF m 131 #[vR a1, vR a2, vI 2, vI 5, vI 3, vI 2] [])) _
    refine XS.aloadN X24.here hx rfl (hb hby d5_131) rfl rfl ?_
    show Steps _ _ _ (T24.setTop (mkF m 132 #[vR a1, vR a2, vI 2, vI 5, vI 3, vI 2] [iR a1])) _
    refine st26 _ ?_
    show Steps _ _ _ (T26.setTop (mkF m 135 #[vR a1, vR a2, vI 2, vI 5, vI 3, vI 2] [iR s2])) _
    refine XS.aloadN X26.here hx rfl (hb hby d5_135) rfl rfl ?_
    show Steps _ _ _ (T26.setTop (mkF m 136 #[vR a1, vR a2, vI 2, vI 5, vI 3, vI 2] [iR a1, iR s2])) _
    refine st28 _ ?_
    show Steps _ _ _ (T28.setTop (mkF m 139 #[vR a1, vR a2, vI 2, vI 5, vI 3, vI 2] [iI 0, iR s2])) _
    refine XS.iload X28.here hx rfl (hb hby d5_139) rfl ?_
    show Steps _ _ _ (T28.setTop (mkF m 141 #[vR a1, vR a2, vI 2, vI 5, vI 3, vI 2] [iI 3, iI 0, iR s2])) _
    refine st32 _ ?_
    show Steps _ _ _ (T32.setTop (mkF m 142 #[vR a1, vR a2, vI 2, vI 5, vI 3, vI 2] [])) _
    refine XS.aloadN X32.here hx rfl (hb hby d5_142) rfl rfl ?_
    show Steps _ _ _ (T32.setTop (mkF m 143 #[vR a1, vR a2, vI 2, vI 5, vI 3, vI 2] [iR a1])) _
    refine XS.dup X32.here hx rfl (hb hby d5_143) rfl rfl ?_
    show Steps _ _ _ (T32.setTop (mkF m 144 #[vR a1, vR a2, vI 2, vI 5, vI 3, vI 2] [iR a1, iR a1])) _
    refine st34 _ ?_
    show Steps _ _ _ (T34.setTop (mkF m 147 #[vR a1, vR a2, vI 2, vI 5, vI 3, vI 2] [iI 0, iR a1])) _
    refine XS.iconst X34.here hx rfl (hb hby d5_147) ?_
    show Steps _ _ _ (T34.setTop (mkF m 148 #[vR a1, vR a2, vI 2, vI 5, vI 3, vI 2] [iI 1, iI 0, iR a1])) _
    refine XS.iadd X34.here hx rfl (hb hby d5_148) rfl ?_
    rw [(by decide : ((0 : Int32) + (1 : Int32)) = (1 : Int32))]
    show Steps _ _ _ (T34.setTop (mkF m 149 #[vR a1, vR a2, vI 2, vI 5, vI 3, vI 2] [iI 1, iR a1])) _
    refine st36 _ ?_
    show Steps _ _ _ (T36.setTop (mkF m 152 #[vR a1, vR a2, vI 2, vI 5, vI 3, vI 2] [])) _
    refine XS.goto X36.here hx rfl (pc0 := 152) (pc' := 13) rfl (hb hby d5_152) (by decide) (by decide) ?_
    show Steps _ _ _ (T36.setTop (mkF m 13 #[vR a1, vR a2, vI 2, vI 5, vI 3, vI 2] [])) _
    refine XS.iload X36.here hx rfl (hb hby d5_13) rfl ?_
    show Steps _ _ _ (T36.setTop (mkF m 15 #[vR a1, vR a2, vI 2, vI 5, vI 3, vI 2] [iI 3])) _
    refine XS.iloadN X36.here hx rfl (hb hby d5_15) rfl ?_
    show Steps _ _ _ (T36.setTop (mkF m 16 #[vR a1, vR a2, vI 2, vI 5, vI 3, vI 2] [iI 5, iI 3])) _
    refine XS.icmpNo X36.here hx rfl (hb hby d5_16) rfl (tlt (by decide : (3 : Int32) < (5 : Int32))).2.1 ?_
    show Steps _ _ _ (T36.setTop (mkF m 19 #[vR a1, vR a2, vI 2, vI 5, vI 3, vI 2] [])) _
    refine XS.iload X36.here hx rfl (hb hby d5_19) rfl ?_
    show Steps _ _ _ (T36.setTop (mkF m 21 #[vR a1, vR a2, vI 2, vI 5, vI 3, vI 2] [iI 3])) _
    refine XS.iloadN X36.here hx rfl (hb hby d5_21) rfl ?_
    show Steps _ _ _ (T36.setTop (mkF m 22 #[vR a1, vR a2, vI 2, vI 5, vI 3, vI 2] [iI 5, iI 3])) _
    refine XS.icmpNo X36.here hx rfl (hb hby d5_22) rfl (tlt (by decide : (3 : Int32) < (5 : Int32))).2.1 ?_
    show Steps _ _ _ (T36.setTop (mkF m 25 #[vR a1, vR a2, vI 2, vI 5, vI 3, vI 2] [])) _
    refine XS.aloadN X36.here hx rfl (hb hby d5_25) rfl rfl ?_
    show Steps _ _ _ (T36.setTop (mkF m 26 #[vR a1, vR a2, vI 2, vI 5, vI 3, vI 2] [iR a2])) _
    refine XS.iload X36.here hx rfl (hb hby d5_26) rfl ?_
    show Steps _ _ _ (T36.setTop (mkF m 28 #[vR a1, vR a2, vI 2, vI 5, vI 3, vI 2] [iI 3, iR a2])) _
    refine X36.baloadBytes hx (j := (3 : Int32)) (v := (.int x3)) (by rw [e36]; exact Ar38.1) (State.isArrayOf_alike hZ.alike Ar38.2.1) Ar38.2.2 hin39 hat40 (g := (mkF m 28 #[vR a1, vR a2, vI 2, vI 5, vI 3, vI 2] [iI 3, iR a2])) rfl rfl (hb hby d5_28) _ ?_
    show Steps _ _ _ (T36.setTop (mkF m 29 #[vR a1, vR a2, vI 2, vI 5, vI 3, vI 2] [iI x3])) _
    refine st41.trans ?_
    show Steps _ _ _ (T41.setTop (mkF m 32 #[vR a1, vR a2, vI 2, vI 5, vI 3, vI 2] [iI (own_sep x3)])) _
    refine XS.ifNo X41.here hx rfl (hb hby d5_32) rfl ((if0 _ _).trans (feq hx3).1) ?_
    show Steps _ _ _ (T41.setTop (mkF m 35 #[vR a1, vR a2, vI 2, vI 5, vI 3, vI 2] [])) _
    refine XS.iinc X41.here hx rfl (hb hby d5_35) rfl (l' := #[vR a1, vR a2, vI 2, vI 5, vI ((3 : Int32) + (1 : Int32)), vI 2]) rfl ?_
    rw [(by decide : ((3 : Int32) + (1 : Int32)) = (4 : Int32))]
    show Steps _ _ _ (T41.setTop (mkF m 38 #[vR a1, vR a2, vI 2, vI 5, vI 4, vI 2] [])) _
    refine XS.goto X41.here hx rfl (pc0 := 38) (pc' := 19) rfl (hb hby d5_38) (by decide) (by decide) ?_
    show Steps _ _ _ (T41.setTop (mkF m 19 #[vR a1, vR a2, vI 2, vI 5, vI 4, vI 2] [])) _
    refine XS.iload X41.here hx rfl (hb hby d5_19) rfl ?_
    show Steps _ _ _ (T41.setTop (mkF m 21 #[vR a1, vR a2, vI 2, vI 5, vI 4, vI 2] [iI 4])) _
    refine XS.iloadN X41.here hx rfl (hb hby d5_21) rfl ?_
    show Steps _ _ _ (T41.setTop (mkF m 22 #[vR a1, vR a2, vI 2, vI 5, vI 4, vI 2] [iI 5, iI 4])) _
    refine XS.icmpNo X41.here hx rfl (hb hby d5_22) rfl (tlt (by decide : (4 : Int32) < (5 : Int32))).2.1 ?_
    show Steps _ _ _ (T41.setTop (mkF m 25 #[vR a1, vR a2, vI 2, vI 5, vI 4, vI 2] [])) _
    refine XS.aloadN X41.here hx rfl (hb hby d5_25) rfl rfl ?_
    show Steps _ _ _ (T41.setTop (mkF m 26 #[vR a1, vR a2, vI 2, vI 5, vI 4, vI 2] [iR a2])) _
    refine XS.iload X41.here hx rfl (hb hby d5_26) rfl ?_
    show Steps _ _ _ (T41.setTop (mkF m 28 #[vR a1, vR a2, vI 2, vI 5, vI 4, vI 2] [iI 4, iR a2])) _
    refine X41.baloadBytes hx (j := (4 : Int32)) (v := (.int x4)) (by rw [e41]; exact Ar38.1) (State.isArrayOf_alike hZ.alike Ar38.2.1) Ar38.2.2 hin42 hat43 (g := (mkF m 28 #[vR a1, vR a2, vI 2, vI 5, vI 4, vI 2] [iI 4, iR a2])) rfl rfl (hb hby d5_28) _ ?_
    show Steps _ _ _ (T41.setTop (mkF m 29 #[vR a1, vR a2, vI 2, vI 5, vI 4, vI 2] [iI x4])) _
    refine st44.trans ?_
    show Steps _ _ _ (T44.setTop (mkF m 32 #[vR a1, vR a2, vI 2, vI 5, vI 4, vI 2] [iI (own_sep x4)])) _
    refine XS.ifYes X44.here hx rfl (pc0 := 32) (pc' := 41) rfl (hb hby d5_32) rfl ((if0 _ _).trans (teq hx4).1) (by decide) (by decide) ?_
    show Steps _ _ _ (T44.setTop (mkF m 41 #[vR a1, vR a2, vI 2, vI 5, vI 4, vI 2] [])) _
    refine XS.iload X44.here hx rfl (hb hby d5_41) rfl ?_
    show Steps _ _ _ (T44.setTop (mkF m 43 #[vR a1, vR a2, vI 2, vI 5, vI 4, vI 2] [iI 4])) _
    refine XS.istore X44.here hx rfl (hb hby d5_43) rfl (l' := #[vR a1, vR a2, vI 2, vI 5, vI 4, vI 4]) rfl ?_
    show Steps _ _ _ (T44.setTop (mkF m 45 #[vR a1, vR a2, vI 2, vI 5, vI 4, vI 4] [])) _
    refine XS.iload X44.here hx rfl (hb hby d5_45) rfl ?_
    show Steps _ _ _ (T44.setTop (mkF m 47 #[vR a1, vR a2, vI 2, vI 5, vI 4, vI 4] [iI 4])) _
    refine XS.iloadN X44.here hx rfl (hb hby d5_47) rfl ?_
    show Steps _ _ _ (T44.setTop (mkF m 48 #[vR a1, vR a2, vI 2, vI 5, vI 4, vI 4] [iI 5, iI 4])) _
    refine XS.icmpNo X44.here hx rfl (hb hby d5_48) rfl (tlt (by decide : (4 : Int32) < (5 : Int32))).2.1 ?_
    show Steps _ _ _ (T44.setTop (mkF m 51 #[vR a1, vR a2, vI 2, vI 5, vI 4, vI 4] [])) _
    refine XS.aloadN X44.here hx rfl (hb hby d5_51) rfl rfl ?_
    show Steps _ _ _ (T44.setTop (mkF m 52 #[vR a1, vR a2, vI 2, vI 5, vI 4, vI 4] [iR a2])) _
    refine XS.iload X44.here hx rfl (hb hby d5_52) rfl ?_
    show Steps _ _ _ (T44.setTop (mkF m 54 #[vR a1, vR a2, vI 2, vI 5, vI 4, vI 4] [iI 4, iR a2])) _
    refine X44.baloadBytes hx (j := (4 : Int32)) (v := (.int x4)) (by rw [e44]; exact Ar38.1) (State.isArrayOf_alike hZ.alike Ar38.2.1) Ar38.2.2 hin45 hat46 (g := (mkF m 54 #[vR a1, vR a2, vI 2, vI 5, vI 4, vI 4] [iI 4, iR a2])) rfl rfl (hb hby d5_54) _ ?_
    show Steps _ _ _ (T44.setTop (mkF m 55 #[vR a1, vR a2, vI 2, vI 5, vI 4, vI 4] [iI x4])) _
    refine st47.trans ?_
    show Steps _ _ _ (T47.setTop (mkF m 58 #[vR a1, vR a2, vI 2, vI 5, vI 4, vI 4] [iI (own_sep x4)])) _
    refine XS.ifNo X47.here hx rfl (hb hby d5_58) rfl ((if0 _ _).trans (teq hx4).2) ?_
    show Steps _ _ _ (T47.setTop (mkF m 61 #[vR a1, vR a2, vI 2, vI 5, vI 4, vI 4] [])) _
    refine XS.iinc X47.here hx rfl (hb hby d5_61) rfl (l' := #[vR a1, vR a2, vI 2, vI 5, vI ((4 : Int32) + (1 : Int32)), vI 4]) rfl ?_
    rw [(by decide : ((4 : Int32) + (1 : Int32)) = (5 : Int32))]
    show Steps _ _ _ (T47.setTop (mkF m 64 #[vR a1, vR a2, vI 2, vI 5, vI 5, vI 4] [])) _
    refine XS.goto X47.here hx rfl (pc0 := 64) (pc' := 45) rfl (hb hby d5_64) (by decide) (by decide) ?_
    show Steps _ _ _ (T47.setTop (mkF m 45 #[vR a1, vR a2, vI 2, vI 5, vI 5, vI 4] [])) _
    refine XS.iload X47.here hx rfl (hb hby d5_45) rfl ?_
    show Steps _ _ _ (T47.setTop (mkF m 47 #[vR a1, vR a2, vI 2, vI 5, vI 5, vI 4] [iI 5])) _
    refine XS.iloadN X47.here hx rfl (hb hby d5_47) rfl ?_
    show Steps _ _ _ (T47.setTop (mkF m 48 #[vR a1, vR a2, vI 2, vI 5, vI 5, vI 4] [iI 5, iI 5])) _
    refine XS.icmpYes X47.here hx rfl (pc0 := 48) (pc' := 67) rfl (hb hby d5_48) rfl (flt (by decide : ¬ ((5 : Int32) < (5 : Int32)))).2.1 (by decide) (by decide) ?_
    show Steps _ _ _ (T47.setTop (mkF m 67 #[vR a1, vR a2, vI 2, vI 5, vI 5, vI 4] [])) _
    refine XS.iload X47.here hx rfl (hb hby d5_67) rfl ?_
    show Steps _ _ _ (T47.setTop (mkF m 69 #[vR a1, vR a2, vI 2, vI 5, vI 5, vI 4] [iI 5])) _
    refine XS.iload X47.here hx rfl (hb hby d5_69) rfl ?_
    show Steps _ _ _ (T47.setTop (mkF m 71 #[vR a1, vR a2, vI 2, vI 5, vI 5, vI 4] [iI 4, iI 5])) _
    refine XS.icmpNo X47.here hx rfl (hb hby d5_71) rfl (tlt (by decide : (4 : Int32) < (5 : Int32))).2.2.2 ?_
    show Steps _ _ _ (T47.setTop (mkF m 74 #[vR a1, vR a2, vI 2, vI 5, vI 5, vI 4] [])) _
    refine XS.aloadN X47.here hx rfl (hb hby d5_74) rfl rfl ?_
    show Steps _ _ _ (T47.setTop (mkF m 75 #[vR a1, vR a2, vI 2, vI 5, vI 5, vI 4] [iR a1])) _
    refine st48 _ ?_
    show Steps _ _ _ (T48.setTop (mkF m 78 #[vR a1, vR a2, vI 2, vI 5, vI 5, vI 4] [iI 1])) _
    refine XS.aloadN X48.here hx rfl (hb hby d5_78) rfl rfl ?_
    show Steps _ _ _ (T48.setTop (mkF m 79 #[vR a1, vR a2, vI 2, vI 5, vI 5, vI 4] [iR a1, iI 1])) _
    refine st50 _ ?_
    show Steps _ _ _ (T50.setTop (mkF m 82 #[vR a1, vR a2, vI 2, vI 5, vI 5, vI 4] [iR s1, iI 1])) _
    refine X50.arraylength hx (by rw [e50]; exact Ar52.1) (State.isArrayOf_alike hZ.alike Ar52.2.1) (g := (mkF m 82 #[vR a1, vR a2, vI 2, vI 5, vI 5, vI 4] [iR s1, iI 1])) rfl rfl (hb hby d5_82) _ ?_
    rw [len_of S52 M52]
    show Steps _ _ _ (T50.setTop (mkF m 83 #[vR a1, vR a2, vI 2, vI 5, vI 5, vI 4] [iI 16, iI 1])) _
    refine XS.icmpYes X50.here hx rfl (pc0 := 83) (pc' := 120) rfl (hb hby d5_83) rfl (feq (by decide : ¬ ((1 : Int32) = (16 : Int32)))).2 (by decide) (by decide) ?_
    show Steps _ _ _ (T50.setTop (mkF m 120 #[vR a1, vR a2, vI 2, vI 5, vI 5, vI 4] [])) _
    refine XS.aloadN X50.here hx rfl (hb hby d5_120) rfl rfl ?_
    show Steps _ _ _ (T50.setTop (mkF m 121 #[vR a1, vR a2, vI 2, vI 5, vI 5, vI 4] [iR a1])) _
    refine st53 _ ?_
    show Steps _ _ _ (T53.setTop (mkF m 124 #[vR a1, vR a2, vI 2, vI 5, vI 5, vI 4] [iR s1])) _
    refine XS.aloadN X53.here hx rfl (hb hby d5_124) rfl rfl ?_
    show Steps _ _ _ (T53.setTop (mkF m 125 #[vR a1, vR a2, vI 2, vI 5, vI 5, vI 4] [iR a1, iR s1])) _
    refine st54 _ ?_
    show Steps _ _ _ (T54.setTop (mkF m 128 #[vR a1, vR a2, vI 2, vI 5, vI 5, vI 4] [iI 1, iR s1])) _
    refine XS.iload X54.here hx rfl (hb hby d5_128) rfl ?_
    show Steps _ _ _ (T54.setTop (mkF m 130 #[vR a1, vR a2, vI 2, vI 5, vI 5, vI 4] [iI 4, iI 1, iR s1])) _
    refine st56 _ ?_
    show Steps _ _ _ (T56.setTop (mkF m 131 #[vR a1, vR a2, vI 2, vI 5, vI 5, vI 4] [])) _
    refine XS.aloadN X56.here hx rfl (hb hby d5_131) rfl rfl ?_
    show Steps _ _ _ (T56.setTop (mkF m 132 #[vR a1, vR a2, vI 2, vI 5, vI 5, vI 4] [iR a1])) _
    refine st58 _ ?_
    show Steps _ _ _ (T58.setTop (mkF m 135 #[vR a1, vR a2, vI 2, vI 5, vI 5, vI 4] [iR s2])) _
    refine XS.aloadN X58.here hx rfl (hb hby d5_135) rfl rfl ?_
    show Steps _ _ _ (T58.setTop (mkF m 136 #[vR a1, vR a2, vI 2, vI 5, vI 5, vI 4] [iR a1, iR s2])) _
    refine st60 _ ?_
    show Steps _ _ _ (T60.setTop (mkF m 139 #[vR a1, vR a2, vI 2, vI 5, vI 5, vI 4] [iI 1, iR s2])) _
    refine XS.iload X60.here hx rfl (hb hby d5_139) rfl ?_
    show Steps _ _ _ (T60.setTop (mkF m 141 #[vR a1, vR a2, vI 2, vI 5, vI 5, vI 4] [iI 5, iI 1, iR s2])) _
    refine st64 _ ?_
    show Steps _ _ _ (T64.setTop (mkF m 142 #[vR a1, vR a2, vI 2, vI 5, vI 5, vI 4] [])) _
    refine XS.aloadN X64.here hx rfl (hb hby d5_142) rfl rfl ?_
    show Steps _ _ _ (T64.setTop (mkF m 143 #[vR a1, vR a2, vI 2, vI 5, vI 5, vI 4] [iR a1])) _
    refine XS.dup X64.here hx rfl (hb hby d5_143) rfl rfl ?_
    show Steps _ _ _ (T64.setTop (mkF m 144 #[vR a1, vR a2, vI 2, vI 5, vI 5, vI 4] [iR a1, iR a1])) _
    refine st66 _ ?_
    show Steps _ _ _ (T66.setTop (mkF m 147 #[vR a1, vR a2, vI 2, vI 5, vI 5, vI 4] [iI 1, iR a1])) _
    refine XS.iconst X66.here hx rfl (hb hby d5_147) ?_
    show Steps _ _ _ (T66.setTop (mkF m 148 #[vR a1, vR a2, vI 2, vI 5, vI 5, vI 4] [iI 1, iI 1, iR a1])) _
    refine XS.iadd X66.here hx rfl (hb hby d5_148) rfl ?_
    rw [(by decide : ((1 : Int32) + (1 : Int32)) = (2 : Int32))]
    show Steps _ _ _ (T66.setTop (mkF m 149 #[vR a1, vR a2, vI 2, vI 5, vI 5, vI 4] [iI 2, iR a1])) _
    refine st68 _ ?_
    show Steps _ _ _ (T68.setTop (mkF m 152 #[vR a1, vR a2, vI 2, vI 5, vI 5, vI 4] [])) _
    refine XS.goto X68.here hx rfl (pc0 := 152) (pc' := 13) rfl (hb hby d5_152) (by decide) (by decide) ?_
    show Steps _ _ _ (T68.setTop (mkF m 13 #[vR a1, vR a2, vI 2, vI 5, vI 5, vI 4] [])) _
    refine XS.iload X68.here hx rfl (hb hby d5_13) rfl ?_
    show Steps _ _ _ (T68.setTop (mkF m 15 #[vR a1, vR a2, vI 2, vI 5, vI 5, vI 4] [iI 5])) _
    refine XS.iloadN X68.here hx rfl (hb hby d5_15) rfl ?_
    show Steps _ _ _ (T68.setTop (mkF m 16 #[vR a1, vR a2, vI 2, vI 5, vI 5, vI 4] [iI 5, iI 5])) _
    refine XS.icmpYes X68.here hx rfl (pc0 := 16) (pc' := 155) rfl (hb hby d5_16) rfl (flt (by decide : ¬ ((5 : Int32) < (5 : Int32)))).2.1 (by decide) (by decide) ?_
    show Steps _ _ _ (T68.setTop (mkF m 155 #[vR a1, vR a2, vI 2, vI 5, vI 5, vI 4] [])) _
    exact X68.returnOut hx Bd.returns (hb hby d5_155) hr
  · show Q5_2_5 Z a1 a2 s1 s2 k1 k2 kl x0 x1 x2 x3 x4 x5 x6 h0 n0 _ T68.heap _
    rw [e68]
    exact ⟨rfl, N68, K68, fk69, fk70, fk71, fk72, fk73, fk74⟩
theorem ef_5_2_6 (m : MethodId) (x0 : Addr) (x1 : Addr) : entryFrame m #[(.ref x0), (.ref x1), (.int (2 : Int32)), (.int (6 : Int32))] 6 = mkF m 0 #[.val (.ref x0), .val (.ref x1), .val (.int (2 : Int32)), .val (.int (6 : Int32)), .unset, .unset] [] := by first | (simp [entryFrame, mkF, argsToLocals, Value.category]; done) | rfl
def Q5_2_6 (Z : State) (a1 : Addr) (a2 : Addr) (s1 s2 : Addr) (k1 k2 kl : ClassId) (x0 : Int32) (x1 : Int32) (x2 : Int32) (x3 : Int32) (x4 : Int32) (x5 : Int32) (x6 : Int32) (h0 : Heap) (n0 : Nat) (v : Option Value) (h : Heap) (L : List Loc) : Prop := v = none ∧ Fr n0 L ∧ Keep h0 h [a1, s1, s2] ∧ Exa Z h a1 "com/example/tidemine/tidemine/TextFormat$Tokens" ∧ Fld Z h a1 "com/example/tidemine/tidemine/TextFormat$Tokens" "line" "[B" (.ref a2) ∧ Fld Z h a1 "com/example/tidemine/tidemine/TextFormat$Tokens" "starts" "[I" (.ref s1) ∧ Fld Z h a1 "com/example/tidemine/tidemine/TextFormat$Tokens" "ends" "[I" (.ref s2) ∧ Arv Z h s1 k1 .int (16 : Int32) [(.int (2 : Int32)), (.int (4 : Int32)), (.int (0 : Int32)), (.int (0 : Int32)), (.int (0 : Int32)), (.int (0 : Int32)), (.int (0 : Int32)), (.int (0 : Int32)), (.int (0 : Int32)), (.int (0 : Int32)), (.int (0 : Int32)), (.int (0 : Int32)), (.int (0 : Int32)), (.int (0 : Int32)), (.int (0 : Int32)), (.int (0 : Int32))] (.int (0 : Int32)) ∧ Arv Z h s2 k2 .int (16 : Int32) [(.int (3 : Int32)), (.int (6 : Int32)), (.int (0 : Int32)), (.int (0 : Int32)), (.int (0 : Int32)), (.int (0 : Int32)), (.int (0 : Int32)), (.int (0 : Int32)), (.int (0 : Int32)), (.int (0 : Int32)), (.int (0 : Int32)), (.int (0 : Int32)), (.int (0 : Int32)), (.int (0 : Int32)), (.int (0 : Int32)), (.int (0 : Int32))] (.int (0 : Int32))
set_option maxRecDepth 65536 in
set_option maxHeartbeats 40000000 in
theorem rm5_2_6 (l : Launch) (Z : State) (a0 : Array Value) (hw : ∀ d ∈ tables_1, d.before a0 Z = true) (ws : List Jvm.Cond) (a1 : Addr) (a2 : Addr) (s1 s2 : Addr) (k1 k2 kl : ClassId) (x0 : Int32) (x1 : Int32) (x2 : Int32) (x3 : Int32) (x4 : Int32) (x5 : Int32) (x6 : Int32) (h0 : Heap) (n0 : Nat) (Z0 : n0 ≤ h0.size) (E_a1 : Exa Z h0 a1 "com/example/tidemine/tidemine/TextFormat$Tokens") (g_a1 : n0 ≤ a1) (g_s1 : n0 ≤ s1) (g_s2 : n0 ≤ s2) (F_line : Fld Z h0 a1 "com/example/tidemine/tidemine/TextFormat$Tokens" "line" "[B" .null) (F_starts : Fld Z h0 a1 "com/example/tidemine/tidemine/TextFormat$Tokens" "starts" "[I" (.ref s1)) (F_ends : Fld Z h0 a1 "com/example/tidemine/tidemine/TextFormat$Tokens" "ends" "[I" (.ref s2)) (F_count : Fld Z h0 a1 "com/example/tidemine/tidemine/TextFormat$Tokens" "count" "I" (.int (0 : Int32))) (V_1 : Arv Z h0 s1 k1 .int (16 : Int32) [(.int (0 : Int32)), (.int (0 : Int32)), (.int (0 : Int32)), (.int (0 : Int32)), (.int (0 : Int32)), (.int (0 : Int32)), (.int (0 : Int32)), (.int (0 : Int32)), (.int (0 : Int32)), (.int (0 : Int32)), (.int (0 : Int32)), (.int (0 : Int32)), (.int (0 : Int32)), (.int (0 : Int32)), (.int (0 : Int32)), (.int (0 : Int32))] (.int (0 : Int32))) (V_2 : Arv Z h0 s2 k2 .int (16 : Int32) [(.int (0 : Int32)), (.int (0 : Int32)), (.int (0 : Int32)), (.int (0 : Int32)), (.int (0 : Int32)), (.int (0 : Int32)), (.int (0 : Int32)), (.int (0 : Int32)), (.int (0 : Int32)), (.int (0 : Int32)), (.int (0 : Int32)), (.int (0 : Int32)), (.int (0 : Int32)), (.int (0 : Int32)), (.int (0 : Int32)), (.int (0 : Int32))] (.int (0 : Int32))) (V_l : Arv Z h0 a2 kl .byte (7 : Int32) [(.int x0), (.int x1), (.int x2), (.int x3), (.int x4), (.int x5), (.int x6)] (.int (0 : Int32))) (ne_a1_a2 : a1 ≠ a2) (ne_a1_s1 : a1 ≠ s1) (ne_a1_s2 : a1 ≠ s2) (ne_a2_s1 : a2 ≠ s1) (ne_a2_s2 : a2 ≠ s2) (ne_s1_s2 : s1 ≠ s2) (hx0 : (own_sep x0) = (0 : Int32)) (hx1 : (own_sep x1) = (0 : Int32)) (hx2 : (own_sep x2) = (0 : Int32)) (hx3 : ¬ (own_sep x3) = (0 : Int32)) (hx4 : (own_sep x4) = (0 : Int32)) (hx5 : (own_sep x5) = (0 : Int32)) (hx6 : (own_sep x6) = (0 : Int32)) :
    MetFree l (⟨"com/example/tidemine/tidemine/TextFormat$Tokens", "split", "([BII)V"⟩ : MethodName) (head1 (Jvm.Cond.code (⟨"com/example/tidemine/tidemine/TextFormat$Tokens", "split", "([BII)V"⟩ : MethodName) prog_41_method_2_code 6 none :: ws) ({ frames := 1, cells := 0, slots := 0, locals := 12 } : Room)) (fun a U => a = #[(.ref a1), (.ref a2), (.int (2 : Int32)), (.int (6 : Int32))] ∧ Z.Warmed39 U.vm ∧ U.heap = h0) (fun _ _ _ _ _ => True) (fun _ U o U' => ∃ v L, o = .returned v ∧ Q5_2_6 Z a1 a2 s1 s2 k1 k2 kl x0 x1 x2 x3 x4 x5 x6 h0 n0 v U'.heap L ∧ FrameEnd U o U' L ({ frames := 1, cells := 0, slots := 0, locals := 12 } : Room).cells ({ frames := 1, cells := 0, slots := 0, locals := 12 } : Room).slots) := by
  refine MetFree.of_bodySF (plainFor_of_name pn_2) hisR ?_
  intro p e s m args below meth c s₁ Bd hml0 hP hK
  obtain ⟨rfl, hZ, hh⟩ := hP
  have hx := Bd.exec
  have hby := Bd.bytes
  have hml : c.maxLocals = 6 := hml0
  have hown : s.vm.findClass "com/example/tidemine/tidemine/TextFormat$Tokens" = some m.cls := findClass_of_methodNamed Bd.named
  have hnm := (name_of_methodNamed Bd.named Bd.method).1
  have X0 : Stand p l e ({ frames := 1, cells := 0, slots := 0, locals := 12 } : Room) s m #[(.ref a1), (.ref a2), (.int (2 : Int32)), (.int (6 : Int32))] below meth c s₁ [] 0 0 := Stand.of_body Bd
  have e0 : s₁.heap = h0 := by rw [← hh, Bd.state]; rfl
  have N0 := Fr.nil n0
  have K0 := Keep.refl h0 [a1, s1, s2]
  have pre0 : ∀ t, Steps p.tables e below (s₁.setTop (mkF m 0 #[.val (.ref a1), .val (.ref a2), .val (.int (2 : Int32)), .val (.int (6 : Int32)), .unset, .unset] [])) t → Steps p.tables e below (s₁.setTop (entryFrame m #[(.ref a1), (.ref a2), (.int (2 : Int32)), (.int (6 : Int32))] 6)) t := fun t k => castTop (ef_5_2_6 m a1 a2) k
  obtain ⟨T1, h1, X1, e1, W1, st1⟩ := putF X0 hx hZ hown (host := "") (Or.inl (hw _ (List.mem_of_getElem? (i := 28) rfl))) Via.refl e0 F_line E_a1 (Or.inl (hw _ (List.mem_of_getElem? (i := 29) rfl))) (hw _ (List.mem_of_getElem? (i := 10) rfl)) (ty := (.array .byte)) (by decide) rfl rfl (g := (mkF m 2 #[vR a1, vR a2, vI 2, vI 6, .unset, .unset] [iR a2, iR a1])) rfl rfl (hb hby d5_2)
  have Fw1 := F_line.same W1
  have K1 : Keep h0 h1 [a1, s1, s2] := K0.wr W1 (Or.inl (List.mem_of_getElem? (i := 0) rfl))
  have N1 := Fr.snoc X1 N0 g_a1
  have fk2 := (F_count.other W1 (Or.inr (slot_ne (Or.inl (hw _ (List.mem_of_getElem? (i := 31) rfl))) (Or.inl (hw _ (List.mem_of_getElem? (i := 29) rfl))) (by decide) (t := .int) (t' := (.array .byte)) (by decide) (by decide))))
  have fk3 := (E_a1.wr W1)
  obtain ⟨T4, h4, X4, e4, W4, st4⟩ := putF X1 hx hZ hown (host := "") (Or.inl (hw _ (List.mem_of_getElem? (i := 30) rfl))) Via.refl e1 fk2 fk3 (Or.inl (hw _ (List.mem_of_getElem? (i := 31) rfl))) (hw _ (List.mem_of_getElem? (i := 10) rfl)) (ty := .int) (by decide) rfl rfl (g := (mkF m 7 #[vR a1, vR a2, vI 2, vI 6, .unset, .unset] [iI 0, iR a1])) rfl rfl (hb hby d5_7)
  have Fw4 := fk2.same W4
  have K4 : Keep h0 h4 [a1, s1, s2] := K1.wr W4 (Or.inl (List.mem_of_getElem? (i := 0) rfl))
  have N4 := Fr.snoc X4 N1 g_a1
  have fk5 := ((V_l.other W1 (Ne.symm ne_a1_a2)).other W4 (Ne.symm ne_a1_a2))
  obtain ⟨cl6, Ar6, q6, S6, M6, H6, G6⟩ := id fk5
  have hin7 : ¬ ((2 : Int32) < 0 ∨ cl6.slots.size ≤ ((2 : Int32)).toNatClampNeg) := inb_of S6 ⟨by decide, by decide⟩
  have hat8 : cl6.slots[((2 : Int32)).toNatClampNeg]? = some (.int x2) := Has.at H6 hin7 rfl
  obtain ⟨_, _, ⟨T9, L9, k9, n9⟩, -, X9, ⟨Lc9, hQ9, l9, y9, z9⟩, st9⟩ := callSN X4 hx (y := (⟨"com/example/tidemine/tidemine/TextFormat", "isSeparator", "(B)Z"⟩ : MethodName)) hown (Cond.methodLinkNest_wide hZ (hw _ (List.mem_of_getElem? (i := 32) rfl))) (mvT hZ (hw _ (List.mem_of_getElem? (i := 33) rfl))) (mvT hZ (hw _ (List.mem_of_getElem? (i := 34) rfl))) (mvT hZ (hw _ (List.mem_of_getElem? (i := 35) rfl))) (by decide) (backOf (W := 0) (rm6 l Z a0 hw [] x2 h4 ) hZ (hw _ (List.mem_of_getElem? (i := 35) rfl)) (hw _ (List.mem_of_getElem? (i := 34) rfl)) (by decide) (by decide)) (g := (mkF m 29 #[vR a1, vR a2, vI 2, vI 6, vI 2, .unset] [iI x2])) rfl (by rw [hml]; rfl) (argsL := [(.int x2)]) (rest := []) (lenOf pd_0 rfl) rfl (by show 2 * 0 + _ ≤ _; exact Nat.le_of_eq rfl) (hb hby d5_29) (fun _ _ => ⟨rfl, e4, (by decide : 0 + 0 ≤ _), (by decide : 0 + 0 ≤ _)⟩)
  dsimp only [Pt.U, Pt.locs, Pt.cells, Pt.slots] at X9 l9 y9 z9 st9 hQ9
  subst l9 y9 z9
  obtain ⟨rfl, rfl, e9⟩ := hQ9
  try rw [List.append_nil] at X9
  have hin10 : ¬ ((2 : Int32) < 0 ∨ cl6.slots.size ≤ ((2 : Int32)).toNatClampNeg) := inb_of S6 ⟨by decide, by decide⟩
  have hat11 : cl6.slots[((2 : Int32)).toNatClampNeg]? = some (.int x2) := Has.at H6 hin10 rfl
  obtain ⟨_, _, ⟨T12, L12, k12, n12⟩, -, X12, ⟨Lc12, hQ12, l12, y12, z12⟩, st12⟩ := callSN X9 hx (y := (⟨"com/example/tidemine/tidemine/TextFormat", "isSeparator", "(B)Z"⟩ : MethodName)) hown (Cond.methodLinkNest_wide hZ (hw _ (List.mem_of_getElem? (i := 32) rfl))) (mvT hZ (hw _ (List.mem_of_getElem? (i := 33) rfl))) (mvT hZ (hw _ (List.mem_of_getElem? (i := 34) rfl))) (mvT hZ (hw _ (List.mem_of_getElem? (i := 35) rfl))) (by decide) (backOf (W := 0) (rm6 l Z a0 hw [] x2 h4 ) hZ (hw _ (List.mem_of_getElem? (i := 35) rfl)) (hw _ (List.mem_of_getElem? (i := 34) rfl)) (by decide) (by decide)) (g := (mkF m 55 #[vR a1, vR a2, vI 2, vI 6, vI 2, vI 2] [iI x2])) rfl (by rw [hml]; rfl) (argsL := [(.int x2)]) (rest := []) (lenOf pd_0 rfl) rfl (by show 2 * 0 + _ ≤ _; exact Nat.le_of_eq rfl) (hb hby d5_55) (fun _ _ => ⟨rfl, e9, (by decide : 0 + 0 ≤ _), (by decide : 0 + 0 ≤ _)⟩)
  dsimp only [Pt.U, Pt.locs, Pt.cells, Pt.slots] at X12 l12 y12 z12 st12 hQ12
  subst l12 y12 z12
  obtain ⟨rfl, rfl, e12⟩ := hQ12
  try rw [List.append_nil] at X12
  have hin13 : ¬ ((3 : Int32) < 0 ∨ cl6.slots.size ≤ ((3 : Int32)).toNatClampNeg) := inb_of S6 ⟨by decide, by decide⟩
  have hat14 : cl6.slots[((3 : Int32)).toNatClampNeg]? = some (.int x3) := Has.at H6 hin13 rfl
  obtain ⟨_, _, ⟨T15, L15, k15, n15⟩, -, X15, ⟨Lc15, hQ15, l15, y15, z15⟩, st15⟩ := callSN X12 hx (y := (⟨"com/example/tidemine/tidemine/TextFormat", "isSeparator", "(B)Z"⟩ : MethodName)) hown (Cond.methodLinkNest_wide hZ (hw _ (List.mem_of_getElem? (i := 32) rfl))) (mvT hZ (hw _ (List.mem_of_getElem? (i := 33) rfl))) (mvT hZ (hw _ (List.mem_of_getElem? (i := 34) rfl))) (mvT hZ (hw _ (List.mem_of_getElem? (i := 35) rfl))) (by decide) (backOf (W := 0) (rm6 l Z a0 hw [] x3 h4 ) hZ (hw _ (List.mem_of_getElem? (i := 35) rfl)) (hw _ (List.mem_of_getElem? (i := 34) rfl)) (by decide) (by decide)) (g := (mkF m 55 #[vR a1, vR a2, vI 2, vI 6, vI 3, vI 2] [iI x3])) rfl (by rw [hml]; rfl) (argsL := [(.int x3)]) (rest := []) (lenOf pd_0 rfl) rfl (by show 2 * 0 + _ ≤ _; exact Nat.le_of_eq rfl) (hb hby d5_55) (fun _ _ => ⟨rfl, e12, (by decide : 0 + 0 ≤ _), (by decide : 0 + 0 ≤ _)⟩)
  dsimp only [Pt.U, Pt.locs, Pt.cells, Pt.slots] at X15 l15 y15 z15 st15 hQ15
  subst l15 y15 z15
  obtain ⟨rfl, rfl, e15⟩ := hQ15
  try rw [List.append_nil] at X15
  obtain ⟨T16, X16, e16, st16⟩ := getF X15 hx hZ hown (host := "") (Or.inl (hw _ (List.mem_of_getElem? (i := 30) rfl))) Via.refl e15 Fw4 (g := (mkF m 75 #[vR a1, vR a2, vI 2, vI 6, vI 3, vI 2] [iR a1])) rfl rfl (hb hby d5_75)
  have fk17 := ((F_starts.other W1 (Or.inr (slot_ne (Or.inl (hw _ (List.mem_of_getElem? (i := 20) rfl))) (Or.inl (hw _ (List.mem_of_getElem? (i := 29) rfl))) (by decide) (t := (.array .int)) (t' := (.array .byte)) (by decide) (by decide)))).other W4 (Or.inr (slot_ne (Or.inl (hw _ (List.mem_of_getElem? (i := 20) rfl))) (Or.inl (hw _ (List.mem_of_getElem? (i := 31) rfl))) (by decide) (t := (.array .int)) (t' := .int) (by decide) (by decide))))
  obtain ⟨T18, X18, e18, st18⟩ := getF X16 hx hZ hown (host := "") (Or.inl (hw _ (List.mem_of_getElem? (i := 19) rfl))) Via.refl e16 fk17 (g := (mkF m 79 #[vR a1, vR a2, vI 2, vI 6, vI 3, vI 2] [iR a1, iI 0])) rfl rfl (hb hby d5_79)
  have fk19 := ((V_1.other W1 (Ne.symm ne_a1_s1)).other W4 (Ne.symm ne_a1_s1))
  obtain ⟨cl20, Ar20, q20, S20, M20, H20, G20⟩ := id fk19
  obtain ⟨T21, X21, e21, st21⟩ := getF X18 hx hZ hown (host := "") (Or.inl (hw _ (List.mem_of_getElem? (i := 19) rfl))) Via.refl e18 fk17 (g := (mkF m 121 #[vR a1, vR a2, vI 2, vI 6, vI 3, vI 2] [iR a1])) rfl rfl (hb hby d5_121)
  obtain ⟨T22, X22, e22, st22⟩ := getF X21 hx hZ hown (host := "") (Or.inl (hw _ (List.mem_of_getElem? (i := 30) rfl))) Via.refl e21 Fw4 (g := (mkF m 125 #[vR a1, vR a2, vI 2, vI 6, vI 3, vI 2] [iR a1, iR s1])) rfl rfl (hb hby d5_125)
  have hin23 : ¬ ((0 : Int32) < 0 ∨ cl20.slots.size ≤ ((0 : Int32)).toNatClampNeg) := inb_of S20 ⟨by decide, by decide⟩
  obtain ⟨T24, h24, X24, e24, W24, st24⟩ := stI X22 hx hZ e22 Ar20 (j := (0 : Int32)) hin23 (g := (mkF m 130 #[vR a1, vR a2, vI 2, vI 6, vI 3, vI 2] [iI 2, iI 0, iR s1])) rfl rfl (hb hby d5_130)
  have V24 : Arv Z h24 s1 k1 .int (16 : Int32) [(.int (2 : Int32)), (.int (0 : Int32)), (.int (0 : Int32)), (.int (0 : Int32)), (.int (0 : Int32)), (.int (0 : Int32)), (.int (0 : Int32)), (.int (0 : Int32)), (.int (0 : Int32)), (.int (0 : Int32)), (.int (0 : Int32)), (.int (0 : Int32)), (.int (0 : Int32)), (.int (0 : Int32)), (.int (0 : Int32)), (.int (0 : Int32))] (.int (0 : Int32)) := Arv.set Ar20 q20 S20 M20 H20 G20 rfl W24 0 rfl (Nat.le_of_ble_eq_true rfl)
  have K24 : Keep h0 h24 [a1, s1, s2] := K4.wr W24 (Or.inl (List.mem_of_getElem? (i := 1) rfl))
  have N24 := Fr.snoc X24 N4 g_s1
  have fk25 := (((F_ends.other W1 (Or.inr (slot_ne (Or.inl (hw _ (List.mem_of_getElem? (i := 22) rfl))) (Or.inl (hw _ (List.mem_of_getElem? (i := 29) rfl))) (by decide) (t := (.array .int)) (t' := (.array .byte)) (by decide) (by decide)))).other W4 (Or.inr (slot_ne (Or.inl (hw _ (List.mem_of_getElem? (i := 22) rfl))) (Or.inl (hw _ (List.mem_of_getElem? (i := 31) rfl))) (by decide) (t := (.array .int)) (t' := .int) (by decide) (by decide)))).other W24 (Or.inl ne_a1_s1))
  obtain ⟨T26, X26, e26, st26⟩ := getF X24 hx hZ hown (host := "") (Or.inl (hw _ (List.mem_of_getElem? (i := 21) rfl))) Via.refl e24 fk25 (g := (mkF m 132 #[vR a1, vR a2, vI 2, vI 6, vI 3, vI 2] [iR a1])) rfl rfl (hb hby d5_132)
  have fk27 := (Fw4.other W24 (Or.inl ne_a1_s1))
  obtain ⟨T28, X28, e28, st28⟩ := getF X26 hx hZ hown (host := "") (Or.inl (hw _ (List.mem_of_getElem? (i := 30) rfl))) Via.refl e26 fk27 (g := (mkF m 136 #[vR a1, vR a2, vI 2, vI 6, vI 3, vI 2] [iR a1, iR s2])) rfl rfl (hb hby d5_136)
  have fk29 := (((V_2.other W1 (Ne.symm ne_a1_s2)).other W4 (Ne.symm ne_a1_s2)).other W24 (Ne.symm ne_s1_s2))
  obtain ⟨cl30, Ar30, q30, S30, M30, H30, G30⟩ := id fk29
  have hin31 : ¬ ((0 : Int32) < 0 ∨ cl30.slots.size ≤ ((0 : Int32)).toNatClampNeg) := inb_of S30 ⟨by decide, by decide⟩
  obtain ⟨T32, h32, X32, e32, W32, st32⟩ := stI X28 hx hZ e28 Ar30 (j := (0 : Int32)) hin31 (g := (mkF m 141 #[vR a1, vR a2, vI 2, vI 6, vI 3, vI 2] [iI 3, iI 0, iR s2])) rfl rfl (hb hby d5_141)
  have V32 : Arv Z h32 s2 k2 .int (16 : Int32) [(.int (3 : Int32)), (.int (0 : Int32)), (.int (0 : Int32)), (.int (0 : Int32)), (.int (0 : Int32)), (.int (0 : Int32)), (.int (0 : Int32)), (.int (0 : Int32)), (.int (0 : Int32)), (.int (0 : Int32)), (.int (0 : Int32)), (.int (0 : Int32)), (.int (0 : Int32)), (.int (0 : Int32)), (.int (0 : Int32)), (.int (0 : Int32))] (.int (0 : Int32)) := Arv.set Ar30 q30 S30 M30 H30 G30 rfl W32 0 rfl (Nat.le_of_ble_eq_true rfl)
  have K32 : Keep h0 h32 [a1, s1, s2] := K24.wr W32 (Or.inl (List.mem_of_getElem? (i := 2) rfl))
  have N32 := Fr.snoc X32 N24 g_s2
  have fk33 := (fk27.other W32 (Or.inl ne_a1_s2))
  obtain ⟨T34, X34, e34, st34⟩ := getF X32 hx hZ hown (host := "") (Or.inl (hw _ (List.mem_of_getElem? (i := 30) rfl))) Via.refl e32 fk33 (g := (mkF m 144 #[vR a1, vR a2, vI 2, vI 6, vI 3, vI 2] [iR a1, iR a1])) rfl rfl (hb hby d5_144)
  have fk35 := (((fk3.wr W4).wr W24).wr W32)
  obtain ⟨T36, h36, X36, e36, W36, st36⟩ := putF X34 hx hZ hown (host := "") (Or.inl (hw _ (List.mem_of_getElem? (i := 30) rfl))) Via.refl e34 fk33 fk35 (Or.inl (hw _ (List.mem_of_getElem? (i := 31) rfl))) (hw _ (List.mem_of_getElem? (i := 10) rfl)) (ty := .int) (by decide) rfl rfl (g := (mkF m 149 #[vR a1, vR a2, vI 2, vI 6, vI 3, vI 2] [iI 1, iR a1])) rfl rfl (hb hby d5_149)
  have Fw36 := fk33.same W36
  have K36 : Keep h0 h36 [a1, s1, s2] := K32.wr W36 (Or.inl (List.mem_of_getElem? (i := 0) rfl))
  have N36 := Fr.snoc X36 N32 g_a1
  have fk37 := (((fk5.other W24 ne_a2_s1).other W32 ne_a2_s2).other W36 (Ne.symm ne_a1_a2))
  obtain ⟨cl38, Ar38, q38, S38, M38, H38, G38⟩ := id fk37
  have hin39 : ¬ ((3 : Int32) < 0 ∨ cl38.slots.size ≤ ((3 : Int32)).toNatClampNeg) := inb_of S38 ⟨by decide, by decide⟩
  have hat40 : cl38.slots[((3 : Int32)).toNatClampNeg]? = some (.int x3) := Has.at H38 hin39 rfl
  obtain ⟨_, _, ⟨T41, L41, k41, n41⟩, -, X41, ⟨Lc41, hQ41, l41, y41, z41⟩, st41⟩ := callSN X36 hx (y := (⟨"com/example/tidemine/tidemine/TextFormat", "isSeparator", "(B)Z"⟩ : MethodName)) hown (Cond.methodLinkNest_wide hZ (hw _ (List.mem_of_getElem? (i := 32) rfl))) (mvT hZ (hw _ (List.mem_of_getElem? (i := 33) rfl))) (mvT hZ (hw _ (List.mem_of_getElem? (i := 34) rfl))) (mvT hZ (hw _ (List.mem_of_getElem? (i := 35) rfl))) (by decide) (backOf (W := 0) (rm6 l Z a0 hw [] x3 h36 ) hZ (hw _ (List.mem_of_getElem? (i := 35) rfl)) (hw _ (List.mem_of_getElem? (i := 34) rfl)) (by decide) (by decide)) (g := (mkF m 29 #[vR a1, vR a2, vI 2, vI 6, vI 3, vI 2] [iI x3])) rfl (by rw [hml]; rfl) (argsL := [(.int x3)]) (rest := []) (lenOf pd_0 rfl) rfl (by show 2 * 0 + _ ≤ _; exact Nat.le_of_eq rfl) (hb hby d5_29) (fun _ _ => ⟨rfl, e36, (by decide : 0 + 0 ≤ _), (by decide : 0 + 0 ≤ _)⟩)
  dsimp only [Pt.U, Pt.locs, Pt.cells, Pt.slots] at X41 l41 y41 z41 st41 hQ41
  subst l41 y41 z41
  obtain ⟨rfl, rfl, e41⟩ := hQ41
  try rw [List.append_nil] at X41
  have hin42 : ¬ ((4 : Int32) < 0 ∨ cl38.slots.size ≤ ((4 : Int32)).toNatClampNeg) := inb_of S38 ⟨by decide, by decide⟩
  have hat43 : cl38.slots[((4 : Int32)).toNatClampNeg]? = some (.int x4) := Has.at H38 hin42 rfl
  obtain ⟨_, _, ⟨T44, L44, k44, n44⟩, -, X44, ⟨Lc44, hQ44, l44, y44, z44⟩, st44⟩ := callSN X41 hx (y := (⟨"com/example/tidemine/tidemine/TextFormat", "isSeparator", "(B)Z"⟩ : MethodName)) hown (Cond.methodLinkNest_wide hZ (hw _ (List.mem_of_getElem? (i := 32) rfl))) (mvT hZ (hw _ (List.mem_of_getElem? (i := 33) rfl))) (mvT hZ (hw _ (List.mem_of_getElem? (i := 34) rfl))) (mvT hZ (hw _ (List.mem_of_getElem? (i := 35) rfl))) (by decide) (backOf (W := 0) (rm6 l Z a0 hw [] x4 h36 ) hZ (hw _ (List.mem_of_getElem? (i := 35) rfl)) (hw _ (List.mem_of_getElem? (i := 34) rfl)) (by decide) (by decide)) (g := (mkF m 29 #[vR a1, vR a2, vI 2, vI 6, vI 4, vI 2] [iI x4])) rfl (by rw [hml]; rfl) (argsL := [(.int x4)]) (rest := []) (lenOf pd_0 rfl) rfl (by show 2 * 0 + _ ≤ _; exact Nat.le_of_eq rfl) (hb hby d5_29) (fun _ _ => ⟨rfl, e41, (by decide : 0 + 0 ≤ _), (by decide : 0 + 0 ≤ _)⟩)
  dsimp only [Pt.U, Pt.locs, Pt.cells, Pt.slots] at X44 l44 y44 z44 st44 hQ44
  subst l44 y44 z44
  obtain ⟨rfl, rfl, e44⟩ := hQ44
  try rw [List.append_nil] at X44
  have hin45 : ¬ ((4 : Int32) < 0 ∨ cl38.slots.size ≤ ((4 : Int32)).toNatClampNeg) := inb_of S38 ⟨by decide, by decide⟩
  have hat46 : cl38.slots[((4 : Int32)).toNatClampNeg]? = some (.int x4) := Has.at H38 hin45 rfl
  obtain ⟨_, _, ⟨T47, L47, k47, n47⟩, -, X47, ⟨Lc47, hQ47, l47, y47, z47⟩, st47⟩ := callSN X44 hx (y := (⟨"com/example/tidemine/tidemine/TextFormat", "isSeparator", "(B)Z"⟩ : MethodName)) hown (Cond.methodLinkNest_wide hZ (hw _ (List.mem_of_getElem? (i := 32) rfl))) (mvT hZ (hw _ (List.mem_of_getElem? (i := 33) rfl))) (mvT hZ (hw _ (List.mem_of_getElem? (i := 34) rfl))) (mvT hZ (hw _ (List.mem_of_getElem? (i := 35) rfl))) (by decide) (backOf (W := 0) (rm6 l Z a0 hw [] x4 h36 ) hZ (hw _ (List.mem_of_getElem? (i := 35) rfl)) (hw _ (List.mem_of_getElem? (i := 34) rfl)) (by decide) (by decide)) (g := (mkF m 55 #[vR a1, vR a2, vI 2, vI 6, vI 4, vI 4] [iI x4])) rfl (by rw [hml]; rfl) (argsL := [(.int x4)]) (rest := []) (lenOf pd_0 rfl) rfl (by show 2 * 0 + _ ≤ _; exact Nat.le_of_eq rfl) (hb hby d5_55) (fun _ _ => ⟨rfl, e44, (by decide : 0 + 0 ≤ _), (by decide : 0 + 0 ≤ _)⟩)
  dsimp only [Pt.U, Pt.locs, Pt.cells, Pt.slots] at X47 l47 y47 z47 st47 hQ47
  subst l47 y47 z47
  obtain ⟨rfl, rfl, e47⟩ := hQ47
  try rw [List.append_nil] at X47
  have hin48 : ¬ ((5 : Int32) < 0 ∨ cl38.slots.size ≤ ((5 : Int32)).toNatClampNeg) := inb_of S38 ⟨by decide, by decide⟩
  have hat49 : cl38.slots[((5 : Int32)).toNatClampNeg]? = some (.int x5) := Has.at H38 hin48 rfl
  obtain ⟨_, _, ⟨T50, L50, k50, n50⟩, -, X50, ⟨Lc50, hQ50, l50, y50, z50⟩, st50⟩ := callSN X47 hx (y := (⟨"com/example/tidemine/tidemine/TextFormat", "isSeparator", "(B)Z"⟩ : MethodName)) hown (Cond.methodLinkNest_wide hZ (hw _ (List.mem_of_getElem? (i := 32) rfl))) (mvT hZ (hw _ (List.mem_of_getElem? (i := 33) rfl))) (mvT hZ (hw _ (List.mem_of_getElem? (i := 34) rfl))) (mvT hZ (hw _ (List.mem_of_getElem? (i := 35) rfl))) (by decide) (backOf (W := 0) (rm6 l Z a0 hw [] x5 h36 ) hZ (hw _ (List.mem_of_getElem? (i := 35) rfl)) (hw _ (List.mem_of_getElem? (i := 34) rfl)) (by decide) (by decide)) (g := (mkF m 55 #[vR a1, vR a2, vI 2, vI 6, vI 5, vI 4] [iI x5])) rfl (by rw [hml]; rfl) (argsL := [(.int x5)]) (rest := []) (lenOf pd_0 rfl) rfl (by show 2 * 0 + _ ≤ _; exact Nat.le_of_eq rfl) (hb hby d5_55) (fun _ _ => ⟨rfl, e47, (by decide : 0 + 0 ≤ _), (by decide : 0 + 0 ≤ _)⟩)
  dsimp only [Pt.U, Pt.locs, Pt.cells, Pt.slots] at X50 l50 y50 z50 st50 hQ50
  subst l50 y50 z50
  obtain ⟨rfl, rfl, e50⟩ := hQ50
  try rw [List.append_nil] at X50
  obtain ⟨T51, X51, e51, st51⟩ := getF X50 hx hZ hown (host := "") (Or.inl (hw _ (List.mem_of_getElem? (i := 30) rfl))) Via.refl e50 Fw36 (g := (mkF m 75 #[vR a1, vR a2, vI 2, vI 6, vI 6, vI 4] [iR a1])) rfl rfl (hb hby d5_75)
  have fk52 := (((fk17.other W24 (Or.inl ne_a1_s1)).other W32 (Or.inl ne_a1_s2)).other W36 (Or.inr (slot_ne (Or.inl (hw _ (List.mem_of_getElem? (i := 20) rfl))) (Or.inl (hw _ (List.mem_of_getElem? (i := 31) rfl))) (by decide) (t := (.array .int)) (t' := .int) (by decide) (by decide))))
  obtain ⟨T53, X53, e53, st53⟩ := getF X51 hx hZ hown (host := "") (Or.inl (hw _ (List.mem_of_getElem? (i := 19) rfl))) Via.refl e51 fk52 (g := (mkF m 79 #[vR a1, vR a2, vI 2, vI 6, vI 6, vI 4] [iR a1, iI 1])) rfl rfl (hb hby d5_79)
  have fk54 := ((V24.other W32 ne_s1_s2).other W36 (Ne.symm ne_a1_s1))
  obtain ⟨cl55, Ar55, q55, S55, M55, H55, G55⟩ := id fk54
  obtain ⟨T56, X56, e56, st56⟩ := getF X53 hx hZ hown (host := "") (Or.inl (hw _ (List.mem_of_getElem? (i := 19) rfl))) Via.refl e53 fk52 (g := (mkF m 121 #[vR a1, vR a2, vI 2, vI 6, vI 6, vI 4] [iR a1])) rfl rfl (hb hby d5_121)
  obtain ⟨T57, X57, e57, st57⟩ := getF X56 hx hZ hown (host := "") (Or.inl (hw _ (List.mem_of_getElem? (i := 30) rfl))) Via.refl e56 Fw36 (g := (mkF m 125 #[vR a1, vR a2, vI 2, vI 6, vI 6, vI 4] [iR a1, iR s1])) rfl rfl (hb hby d5_125)
  have hin58 : ¬ ((1 : Int32) < 0 ∨ cl55.slots.size ≤ ((1 : Int32)).toNatClampNeg) := inb_of S55 ⟨by decide, by decide⟩
  obtain ⟨T59, h59, X59, e59, W59, st59⟩ := stI X57 hx hZ e57 Ar55 (j := (1 : Int32)) hin58 (g := (mkF m 130 #[vR a1, vR a2, vI 2, vI 6, vI 6, vI 4] [iI 4, iI 1, iR s1])) rfl rfl (hb hby d5_130)
  have V59 : Arv Z h59 s1 k1 .int (16 : Int32) [(.int (2 : Int32)), (.int (4 : Int32)), (.int (0 : Int32)), (.int (0 : Int32)), (.int (0 : Int32)), (.int (0 : Int32)), (.int (0 : Int32)), (.int (0 : Int32)), (.int (0 : Int32)), (.int (0 : Int32)), (.int (0 : Int32)), (.int (0 : Int32)), (.int (0 : Int32)), (.int (0 : Int32)), (.int (0 : Int32)), (.int (0 : Int32))] (.int (0 : Int32)) := Arv.set Ar55 q55 S55 M55 H55 G55 rfl W59 1 rfl (Nat.le_of_ble_eq_true rfl)
  have K59 : Keep h0 h59 [a1, s1, s2] := K36.wr W59 (Or.inl (List.mem_of_getElem? (i := 1) rfl))
  have N59 := Fr.snoc X59 N36 g_s1
  have fk60 := (((fk25.other W32 (Or.inl ne_a1_s2)).other W36 (Or.inr (slot_ne (Or.inl (hw _ (List.mem_of_getElem? (i := 22) rfl))) (Or.inl (hw _ (List.mem_of_getElem? (i := 31) rfl))) (by decide) (t := (.array .int)) (t' := .int) (by decide) (by decide)))).other W59 (Or.inl ne_a1_s1))
  obtain ⟨T61, X61, e61, st61⟩ := getF X59 hx hZ hown (host := "") (Or.inl (hw _ (List.mem_of_getElem? (i := 21) rfl))) Via.refl e59 fk60 (g := (mkF m 132 #[vR a1, vR a2, vI 2, vI 6, vI 6, vI 4] [iR a1])) rfl rfl (hb hby d5_132)
  have fk62 := (Fw36.other W59 (Or.inl ne_a1_s1))
  obtain ⟨T63, X63, e63, st63⟩ := getF X61 hx hZ hown (host := "") (Or.inl (hw _ (List.mem_of_getElem? (i := 30) rfl))) Via.refl e61 fk62 (g := (mkF m 136 #[vR a1, vR a2, vI 2, vI 6, vI 6, vI 4] [iR a1, iR s2])) rfl rfl (hb hby d5_136)
  have fk64 := ((V32.other W36 (Ne.symm ne_a1_s2)).other W59 (Ne.symm ne_s1_s2))
  obtain ⟨cl65, Ar65, q65, S65, M65, H65, G65⟩ := id fk64
  have hin66 : ¬ ((1 : Int32) < 0 ∨ cl65.slots.size ≤ ((1 : Int32)).toNatClampNeg) := inb_of S65 ⟨by decide, by decide⟩
  obtain ⟨T67, h67, X67, e67, W67, st67⟩ := stI X63 hx hZ e63 Ar65 (j := (1 : Int32)) hin66 (g := (mkF m 141 #[vR a1, vR a2, vI 2, vI 6, vI 6, vI 4] [iI 6, iI 1, iR s2])) rfl rfl (hb hby d5_141)
  have V67 : Arv Z h67 s2 k2 .int (16 : Int32) [(.int (3 : Int32)), (.int (6 : Int32)), (.int (0 : Int32)), (.int (0 : Int32)), (.int (0 : Int32)), (.int (0 : Int32)), (.int (0 : Int32)), (.int (0 : Int32)), (.int (0 : Int32)), (.int (0 : Int32)), (.int (0 : Int32)), (.int (0 : Int32)), (.int (0 : Int32)), (.int (0 : Int32)), (.int (0 : Int32)), (.int (0 : Int32))] (.int (0 : Int32)) := Arv.set Ar65 q65 S65 M65 H65 G65 rfl W67 1 rfl (Nat.le_of_ble_eq_true rfl)
  have K67 : Keep h0 h67 [a1, s1, s2] := K59.wr W67 (Or.inl (List.mem_of_getElem? (i := 2) rfl))
  have N67 := Fr.snoc X67 N59 g_s2
  have fk68 := (fk62.other W67 (Or.inl ne_a1_s2))
  obtain ⟨T69, X69, e69, st69⟩ := getF X67 hx hZ hown (host := "") (Or.inl (hw _ (List.mem_of_getElem? (i := 30) rfl))) Via.refl e67 fk68 (g := (mkF m 144 #[vR a1, vR a2, vI 2, vI 6, vI 6, vI 4] [iR a1, iR a1])) rfl rfl (hb hby d5_144)
  have fk70 := (((fk35.wr W36).wr W59).wr W67)
  obtain ⟨T71, h71, X71, e71, W71, st71⟩ := putF X69 hx hZ hown (host := "") (Or.inl (hw _ (List.mem_of_getElem? (i := 30) rfl))) Via.refl e69 fk68 fk70 (Or.inl (hw _ (List.mem_of_getElem? (i := 31) rfl))) (hw _ (List.mem_of_getElem? (i := 10) rfl)) (ty := .int) (by decide) rfl rfl (g := (mkF m 149 #[vR a1, vR a2, vI 2, vI 6, vI 6, vI 4] [iI 2, iR a1])) rfl rfl (hb hby d5_149)
  have Fw71 := fk68.same W71
  have K71 : Keep h0 h71 [a1, s1, s2] := K67.wr W71 (Or.inl (List.mem_of_getElem? (i := 0) rfl))
  have N71 := Fr.snoc X71 N67 g_a1
  obtain ⟨fs, hr, hrun, hended, hW, hsame⟩ := X71.leave (v := none) (fun _ => rfl)
  have fk72 := (fk70.wr W71)
  have fk73 := (((((((Fw1.other W4 (Or.inr (slot_ne (Or.inl (hw _ (List.mem_of_getElem? (i := 29) rfl))) (Or.inl (hw _ (List.mem_of_getElem? (i := 31) rfl))) (by decide) (t := (.array .byte)) (t' := .int) (by decide) (by decide)))).other W24 (Or.inl ne_a1_s1)).other W32 (Or.inl ne_a1_s2)).other W36 (Or.inr (slot_ne (Or.inl (hw _ (List.mem_of_getElem? (i := 29) rfl))) (Or.inl (hw _ (List.mem_of_getElem? (i := 31) rfl))) (by decide) (t := (.array .byte)) (t' := .int) (by decide) (by decide)))).other W59 (Or.inl ne_a1_s1)).other W67 (Or.inl ne_a1_s2)).other W71 (Or.inr (slot_ne (Or.inl (hw _ (List.mem_of_getElem? (i := 29) rfl))) (Or.inl (hw _ (List.mem_of_getElem? (i := 31) rfl))) (by decide) (t := (.array .byte)) (t' := .int) (by decide) (by decide))))
  have fk74 := (((fk52.other W59 (Or.inl ne_a1_s1)).other W67 (Or.inl ne_a1_s2)).other W71 (Or.inr (slot_ne (Or.inl (hw _ (List.mem_of_getElem? (i := 20) rfl))) (Or.inl (hw _ (List.mem_of_getElem? (i := 31) rfl))) (by decide) (t := (.array .int)) (t' := .int) (by decide) (by decide))))
  have fk75 := ((fk60.other W67 (Or.inl ne_a1_s2)).other W71 (Or.inr (slot_ne (Or.inl (hw _ (List.mem_of_getElem? (i := 22) rfl))) (Or.inl (hw _ (List.mem_of_getElem? (i := 31) rfl))) (by decide) (t := (.array .int)) (t' := .int) (by decide) (by decide))))
  have fk76 := ((V59.other W67 ne_s1_s2).other W71 (Ne.symm ne_a1_s1))
  have fk77 := (V67.other W71 (Ne.symm ne_a1_s2))
  refine ⟨_, _, pre0 _ ?_, hrun, hended, _, _, rfl, ?_, ⟨_, rfl⟩, hW, hsame.mono (by decide) (by decide)⟩
  · show Steps _ _ _ (s₁.setTop (mkF m 0 #[vR a1, vR a2, vI 2, vI 6, .unset, .unset] [])) _
    refine XS.aloadN X0.here hx rfl (hb hby d5_0) rfl rfl ?_
    show Steps _ _ _ (s₁.setTop (mkF m 1 #[vR a1, vR a2, vI 2, vI 6, .unset, .unset] [iR a1])) _
    refine XS.aloadN X0.here hx rfl (hb hby d5_1) rfl rfl ?_
    show Steps _ _ _ (s₁.setTop (mkF m 2 #[vR a1, vR a2, vI 2, vI 6, .unset, .unset] [iR a2, iR a1])) _
    refine st1 _ ?_
    show Steps _ _ _ (T1.setTop (mkF m 5 #[vR a1, vR a2, vI 2, vI 6, .unset, .unset] [])) _
    refine XS.aloadN X1.here hx rfl (hb hby d5_5) rfl rfl ?_
    show Steps _ _ _ (T1.setTop (mkF m 6 #[vR a1, vR a2, vI 2, vI 6, .unset, .unset] [iR a1])) _
    refine XS.iconst X1.here hx rfl (hb hby d5_6) ?_
    show Steps _ _ _ (T1.setTop (mkF m 7 #[vR a1, vR a2, vI 2, vI 6, .unset, .unset] [iI 0, iR a1])) _
    refine st4 _ ?_
    show Steps _ _ _ (T4.setTop (mkF m 10 #[vR a1, vR a2, vI 2, vI 6, .unset, .unset] [])) _
    refine XS.iloadN X4.here hx rfl (hb hby d5_10) rfl ?_
    show Steps _ _ _ (T4.setTop (mkF m 11 #[vR a1, vR a2, vI 2, vI 6, .unset, .unset] [iI 2])) _
    refine XS.istore X4.here hx rfl (hb hby d5_11) rfl (l' := #[vR a1, vR a2, vI 2, vI 6, vI 2, .unset]) rfl ?_
    show Steps _ _ _ (T4.setTop (mkF m 13 #[vR a1, vR a2, vI 2, vI 6, vI 2, .unset] [])) _
    refine XS.iload X4.here hx rfl (hb hby d5_13) rfl ?_
    show Steps _ _ _ (T4.setTop (mkF m 15 #[vR a1, vR a2, vI 2, vI 6, vI 2, .unset] [iI 2])) _
    refine XS.iloadN X4.here hx rfl (hb hby d5_15) rfl ?_
    show Steps _ _ _ (T4.setTop (mkF m 16 #[vR a1, vR a2, vI 2, vI 6, vI 2, .unset] [iI 6, iI 2])) _
    refine XS.icmpNo X4.here hx rfl (hb hby d5_16) rfl (tlt (by decide : (2 : Int32) < (6 : Int32))).2.1 ?_
    show Steps _ _ _ (T4.setTop (mkF m 19 #[vR a1, vR a2, vI 2, vI 6, vI 2, .unset] [])) _
    refine XS.iload X4.here hx rfl (hb hby d5_19) rfl ?_
    show Steps _ _ _ (T4.setTop (mkF m 21 #[vR a1, vR a2, vI 2, vI 6, vI 2, .unset] [iI 2])) _
    refine XS.iloadN X4.here hx rfl (hb hby d5_21) rfl ?_
    show Steps _ _ _ (T4.setTop (mkF m 22 #[vR a1, vR a2, vI 2, vI 6, vI 2, .unset] [iI 6, iI 2])) _
    refine XS.icmpNo X4.here hx rfl (hb hby d5_22) rfl (tlt (by decide : (2 : Int32) < (6 : Int32))).2.1 ?_
    show Steps _ _ _ (T4.setTop (mkF m 25 #[vR a1, vR a2, vI 2, vI 6, vI 2, .unset] [])) _
    refine XS.aloadN X4.here hx rfl (hb hby d5_25) rfl rfl ?_
    show Steps _ _ _ (T4.setTop (mkF m 26 #[vR a1, vR a2, vI 2, vI 6, vI 2, .unset] [iR a2])) _
    refine XS.iload X4.here hx rfl (hb hby d5_26) rfl ?_
    show Steps _ _ _ (T4.setTop (mkF m 28 #[vR a1, vR a2, vI 2, vI 6, vI 2, .unset] [iI 2, iR a2])) _
    refine X4.baloadBytes hx (j := (2 : Int32)) (v := (.int x2)) (by rw [e4]; exact Ar6.1) (State.isArrayOf_alike hZ.alike Ar6.2.1) Ar6.2.2 hin7 hat8 (g := (mkF m 28 #[vR a1, vR a2, vI 2, vI 6, vI 2, .unset] [iI 2, iR a2])) rfl rfl (hb hby d5_28) _ ?_
    show Steps _ _ _ (T4.setTop (mkF m 29 #[vR a1, vR a2, vI 2, vI 6, vI 2, .unset] [iI x2])) _
    refine st9.trans ?_
    show Steps _ _ _ (T9.setTop (mkF m 32 #[vR a1, vR a2, vI 2, vI 6, vI 2, .unset] [iI (own_sep x2)])) _
    refine XS.ifYes X9.here hx rfl (pc0 := 32) (pc' := 41) rfl (hb hby d5_32) rfl ((if0 _ _).trans (teq hx2).1) (by decide) (by decide) ?_
    show Steps _ _ _ (T9.setTop (mkF m 41 #[vR a1, vR a2, vI 2, vI 6, vI 2, .unset] [])) _
    refine XS.iload X9.here hx rfl (hb hby d5_41) rfl ?_
    show Steps _ _ _ (T9.setTop (mkF m 43 #[vR a1, vR a2, vI 2, vI 6, vI 2, .unset] [iI 2])) _
    refine XS.istore X9.here hx rfl (hb hby d5_43) rfl (l' := #[vR a1, vR a2, vI 2, vI 6, vI 2, vI 2]) rfl ?_
    show Steps _ _ _ (T9.setTop (mkF m 45 #[vR a1, vR a2, vI 2, vI 6, vI 2, vI 2] [])) _
    refine XS.iload X9.here hx rfl (hb hby d5_45) rfl ?_
    show Steps _ _ _ (T9.setTop (mkF m 47 #[vR a1, vR a2, vI 2, vI 6, vI 2, vI 2] [iI 2])) _
    refine XS.iloadN X9.here hx rfl (hb hby d5_47) rfl ?_
    show Steps _ _ _ (T9.setTop (mkF m 48 #[vR a1, vR a2, vI 2, vI 6, vI 2, vI 2] [iI 6, iI 2])) _
    refine XS.icmpNo X9.here hx rfl (hb hby d5_48) rfl (tlt (by decide : (2 : Int32) < (6 : Int32))).2.1 ?_
    show Steps _ _ _ (T9.setTop (mkF m 51 #[vR a1, vR a2, vI 2, vI 6, vI 2, vI 2] [])) _
    refine XS.aloadN X9.here hx rfl (hb hby d5_51) rfl rfl ?_
    show Steps _ _ _ (T9.setTop (mkF m 52 #[vR a1, vR a2, vI 2, vI 6, vI 2, vI 2] [iR a2])) _
    refine XS.iload X9.here hx rfl (hb hby d5_52) rfl ?_
    show Steps _ _ _ (T9.setTop (mkF m 54 #[vR a1, vR a2, vI 2, vI 6, vI 2, vI 2] [iI 2, iR a2])) _
    refine X9.baloadBytes hx (j := (2 : Int32)) (v := (.int x2)) (by rw [e9]; exact Ar6.1) (State.isArrayOf_alike hZ.alike Ar6.2.1) Ar6.2.2 hin10 hat11 (g := (mkF m 54 #[vR a1, vR a2, vI 2, vI 6, vI 2, vI 2] [iI 2, iR a2])) rfl rfl (hb hby d5_54) _ ?_
    show Steps _ _ _ (T9.setTop (mkF m 55 #[vR a1, vR a2, vI 2, vI 6, vI 2, vI 2] [iI x2])) _
    refine st12.trans ?_
    show Steps _ _ _ (T12.setTop (mkF m 58 #[vR a1, vR a2, vI 2, vI 6, vI 2, vI 2] [iI (own_sep x2)])) _
    refine XS.ifNo X12.here hx rfl (hb hby d5_58) rfl ((if0 _ _).trans (teq hx2).2) ?_
    show Steps _ _ _ (T12.setTop (mkF m 61 #[vR a1, vR a2, vI 2, vI 6, vI 2, vI 2] [])) _
    refine XS.iinc X12.here hx rfl (hb hby d5_61) rfl (l' := #[vR a1, vR a2, vI 2, vI 6, vI ((2 : Int32) + (1 : Int32)), vI 2]) rfl ?_
    rw [(by decide : ((2 : Int32) + (1 : Int32)) = (3 : Int32))]
    show Steps _ _ _ (T12.setTop (mkF m 64 #[vR a1, vR a2, vI 2, vI 6, vI 3, vI 2] [])) _
    refine XS.goto X12.here hx rfl (pc0 := 64) (pc' := 45) rfl (hb hby d5_64) (by decide) (by decide) ?_
    show Steps _ _ _ (T12.setTop (mkF m 45 #[vR a1, vR a2, vI 2, vI 6, vI 3, vI 2] [])) _
    refine XS.iload X12.here hx rfl (hb hby d5_45) rfl ?_
    show Steps _ _ _ (T12.setTop (mkF m 47 #[vR a1, vR a2, vI 2, vI 6, vI 3, vI 2] [iI 3])) _
    refine XS.iloadN X12.here hx rfl (hb hby d5_47) rfl ?_
    show Steps _ _ _ (T12.setTop (mkF m 48 #[vR a1, vR a2, vI 2, vI 6, vI 3, vI 2] [iI 6, iI 3])) _
    refine XS.icmpNo X12.here hx rfl (hb hby d5_48) rfl (tlt (by decide : (3 : Int32) < (6 : Int32))).2.1 ?_
    show Steps _ _ _ (T12.setTop (mkF m 51 #[vR a1, vR a2, vI 2, vI 6, vI 3, vI 2] [])) _
    refine XS.aloadN X12.here hx rfl (hb hby d5_51) rfl rfl ?_
    show Steps _ _ _ (T12.setTop (mkF m 52 #[vR a1, vR a2, vI 2, vI 6, vI 3, vI 2] [iR a2])) _
    refine XS.iload X12.here hx rfl (hb hby d5_52) rfl ?_
    show Steps _ _ _ (T12.setTop (mkF m 54 #[vR a1, vR a2, vI 2, vI 6, vI 3, vI 2] [iI 3, iR a2])) _
    refine X12.baloadBytes hx (j := (3 : Int32)) (v := (.int x3)) (by rw [e12]; exact Ar6.1) (State.isArrayOf_alike hZ.alike Ar6.2.1) Ar6.2.2 hin13 hat14 (g := (mkF m 54 #[vR a1, vR a2, vI 2, vI 6, vI 3, vI 2] [iI 3, iR a2])) rfl rfl (hb hby d5_54) _ ?_
    show Steps _ _ _ (T12.setTop (mkF m 55 #[vR a1, vR a2, vI 2, vI 6, vI 3, vI 2] [iI x3])) _
    refine st15.trans ?_
    show Steps _ _ _ (T15.setTop (mkF m 58 #[vR a1, vR a2, vI 2, vI 6, vI 3, vI 2] [iI (own_sep x3)])) _
    refine XS.ifYes X15.here hx rfl (pc0 := 58) (pc' := 67) rfl (hb hby d5_58) rfl ((if0 _ _).trans (feq hx3).2) (by decide) (by decide) ?_
    show Steps _ _ _ (T15.setTop (mkF m 67 #[vR a1, vR a2, vI 2, vI 6, vI 3, vI 2] [])) _
    refine XS.iload X15.here hx rfl (hb hby d5_67) rfl ?_
    show Steps _ _ _ (T15.setTop (mkF m 69 #[vR a1, vR a2, vI 2, vI 6, vI 3, vI 2] [iI 3])) _
    refine XS.iload X15.here hx rfl (hb hby d5_69) rfl ?_
    show Steps _ _ _ (T15.setTop (mkF m 71 #[vR a1, vR a2, vI 2, vI 6, vI 3, vI 2] [iI 2, iI 3])) _
    refine XS.icmpNo X15.here hx rfl (hb hby d5_71) rfl (tlt (by decide : (2 : Int32) < (3 : Int32))).2.2.2 ?_
    show Steps _ _ _ (T15.setTop (mkF m 74 #[vR a1, vR a2, vI 2, vI 6, vI 3, vI 2] [])) _
    refine XS.aloadN X15.here hx rfl (hb hby d5_74) rfl rfl ?_
    show Steps _ _ _ (T15.setTop (mkF m 75 #[vR a1, vR a2, vI 2, vI 6, vI 3, vI 2] [iR a1])) _
    refine st16 _ ?_
    show Steps _ _ _ (T16.setTop (mkF m 78 #[vR a1, vR a2, vI 2, vI 6, vI 3, vI 2] [iI 0])) _
    refine XS.aloadN X16.here hx rfl (hb hby d5_78) rfl rfl ?_
    show Steps _ _ _ (T16.setTop (mkF m 79 #[vR a1, vR a2, vI 2, vI 6, vI 3, vI 2] [iR a1, iI 0])) _
    refine st18 _ ?_
    show Steps _ _ _ (T18.setTop (mkF m 82 #[vR a1, vR a2, vI 2, vI 6, vI 3, vI 2] [iR s1, iI 0])) _
    refine X18.arraylength hx (by rw [e18]; exact Ar20.1) (State.isArrayOf_alike hZ.alike Ar20.2.1) (g := (mkF m 82 #[vR a1, vR a2, vI 2, vI 6, vI 3, vI 2] [iR s1, iI 0])) rfl rfl (hb hby d5_82) _ ?_
    rw [len_of S20 M20]
    show Steps _ _ _ (T18.setTop (mkF m 83 #[vR a1, vR a2, vI 2, vI 6, vI 3, vI 2] [iI 16, iI 0])) _
    refine XS.icmpYes X18.here hx rfl (pc0 := 83) (pc' := 120) rfl (hb hby d5_83) rfl (feq (by decide : ¬ ((0 : Int32) = (16 : Int32)))).2 (by decide) (by decide) ?_
    show Steps _ _ _ (T18.setTop (mkF m 120 #[vR a1, vR a2, vI 2, vI 6, vI 3, vI 2] [])) _
    refine XS.aloadN X18.here hx rfl (hb hby d5_120) rfl rfl ?_
    show Steps _ _ _ (T18.setTop (mkF m 121 #[vR a1, vR a2, vI 2, vI 6, vI 3, vI 2] [iR a1])) _
    refine st21 _ ?_
    show Steps _ _ _ (T21.setTop (mkF m 124 #[vR a1, vR a2, vI 2, vI 6, vI 3, vI 2] [iR s1])) _
    refine XS.aloadN X21.here hx rfl (hb hby d5_124) rfl rfl ?_
    show Steps _ _ _ (T21.setTop (mkF m 125 #[vR a1, vR a2, vI 2, vI 6, vI 3, vI 2] [iR a1, iR s1])) _
    refine st22 _ ?_
    show Steps _ _ _ (T22.setTop (mkF m 128 #[vR a1, vR a2, vI 2, vI 6, vI 3, vI 2] [iI 0, iR s1])) _
    refine XS.iload X22.here hx rfl (hb hby d5_128) rfl ?_
    show Steps _ _ _ (T22.setTop (mkF m 130 #[vR a1, vR a2, vI 2, vI 6, vI 3, vI 2] [iI 2, iI 0, iR s1])) _
    refine st24 _ ?_
    show Steps _ _ _ (T24.setTop (mkF m 131 #[vR a1, vR a2, vI 2, vI 6, vI 3, vI 2] [])) _
    refine XS.aloadN X24.here hx rfl (hb hby d5_131) rfl rfl ?_
    show Steps _ _ _ (T24.setTop (mkF m 132 #[vR a1, vR a2, vI 2, vI 6, vI 3, vI 2] [iR a1])) _
    refine st26 _ ?_
    show Steps _ _ _ (T26.setTop (mkF m 135 #[vR a1, vR a2, vI 2, vI 6, vI 3, vI 2] [iR s2])) _
    refine XS.aloadN X26.here hx rfl (hb hby d5_135) rfl rfl ?_
    show Steps _ _ _ (T26.setTop (mkF m 136 #[vR a1, vR a2, vI 2, vI 6, vI 3, vI 2] [iR a1, iR s2])) _
    refine st28 _ ?_
    show Steps _ _ _ (T28.setTop (mkF m 139 #[vR a1, vR a2, vI 2, vI 6, vI 3, vI 2] [iI 0, iR s2])) _
    refine XS.iload X28.here hx rfl (hb hby d5_139) rfl ?_
    show Steps _ _ _ (T28.setTop (mkF m 141 #[vR a1, vR a2, vI 2, vI 6, vI 3, vI 2] [iI 3, iI 0, iR s2])) _
    refine st32 _ ?_
    show Steps _ _ _ (T32.setTop (mkF m 142 #[vR a1, vR a2, vI 2, vI 6, vI 3, vI 2] [])) _
    refine XS.aloadN X32.here hx rfl (hb hby d5_142) rfl rfl ?_
    show Steps _ _ _ (T32.setTop (mkF m 143 #[vR a1, vR a2, vI 2, vI 6, vI 3, vI 2] [iR a1])) _
    refine XS.dup X32.here hx rfl (hb hby d5_143) rfl rfl ?_
    show Steps _ _ _ (T32.setTop (mkF m 144 #[vR a1, vR a2, vI 2, vI 6, vI 3, vI 2] [iR a1, iR a1])) _
    refine st34 _ ?_
    show Steps _ _ _ (T34.setTop (mkF m 147 #[vR a1, vR a2, vI 2, vI 6, vI 3, vI 2] [iI 0, iR a1])) _
    refine XS.iconst X34.here hx rfl (hb hby d5_147) ?_
    show Steps _ _ _ (T34.setTop (mkF m 148 #[vR a1, vR a2, vI 2, vI 6, vI 3, vI 2] [iI 1, iI 0, iR a1])) _
    refine XS.iadd X34.here hx rfl (hb hby d5_148) rfl ?_
    rw [(by decide : ((0 : Int32) + (1 : Int32)) = (1 : Int32))]
    show Steps _ _ _ (T34.setTop (mkF m 149 #[vR a1, vR a2, vI 2, vI 6, vI 3, vI 2] [iI 1, iR a1])) _
    refine st36 _ ?_
    show Steps _ _ _ (T36.setTop (mkF m 152 #[vR a1, vR a2, vI 2, vI 6, vI 3, vI 2] [])) _
    refine XS.goto X36.here hx rfl (pc0 := 152) (pc' := 13) rfl (hb hby d5_152) (by decide) (by decide) ?_
    show Steps _ _ _ (T36.setTop (mkF m 13 #[vR a1, vR a2, vI 2, vI 6, vI 3, vI 2] [])) _
    refine XS.iload X36.here hx rfl (hb hby d5_13) rfl ?_
    show Steps _ _ _ (T36.setTop (mkF m 15 #[vR a1, vR a2, vI 2, vI 6, vI 3, vI 2] [iI 3])) _
    refine XS.iloadN X36.here hx rfl (hb hby d5_15) rfl ?_
    show Steps _ _ _ (T36.setTop (mkF m 16 #[vR a1, vR a2, vI 2, vI 6, vI 3, vI 2] [iI 6, iI 3])) _
    refine XS.icmpNo X36.here hx rfl (hb hby d5_16) rfl (tlt (by decide : (3 : Int32) < (6 : Int32))).2.1 ?_
    show Steps _ _ _ (T36.setTop (mkF m 19 #[vR a1, vR a2, vI 2, vI 6, vI 3, vI 2] [])) _
    refine XS.iload X36.here hx rfl (hb hby d5_19) rfl ?_
    show Steps _ _ _ (T36.setTop (mkF m 21 #[vR a1, vR a2, vI 2, vI 6, vI 3, vI 2] [iI 3])) _
    refine XS.iloadN X36.here hx rfl (hb hby d5_21) rfl ?_
    show Steps _ _ _ (T36.setTop (mkF m 22 #[vR a1, vR a2, vI 2, vI 6, vI 3, vI 2] [iI 6, iI 3])) _
    refine XS.icmpNo X36.here hx rfl (hb hby d5_22) rfl (tlt (by decide : (3 : Int32) < (6 : Int32))).2.1 ?_
    show Steps _ _ _ (T36.setTop (mkF m 25 #[vR a1, vR a2, vI 2, vI 6, vI 3, vI 2] [])) _
    refine XS.aloadN X36.here hx rfl (hb hby d5_25) rfl rfl ?_
    show Steps _ _ _ (T36.setTop (mkF m 26 #[vR a1, vR a2, vI 2, vI 6, vI 3, vI 2] [iR a2])) _
    refine XS.iload X36.here hx rfl (hb hby d5_26) rfl ?_
    show Steps _ _ _ (T36.setTop (mkF m 28 #[vR a1, vR a2, vI 2, vI 6, vI 3, vI 2] [iI 3, iR a2])) _
    refine X36.baloadBytes hx (j := (3 : Int32)) (v := (.int x3)) (by rw [e36]; exact Ar38.1) (State.isArrayOf_alike hZ.alike Ar38.2.1) Ar38.2.2 hin39 hat40 (g := (mkF m 28 #[vR a1, vR a2, vI 2, vI 6, vI 3, vI 2] [iI 3, iR a2])) rfl rfl (hb hby d5_28) _ ?_
    show Steps _ _ _ (T36.setTop (mkF m 29 #[vR a1, vR a2, vI 2, vI 6, vI 3, vI 2] [iI x3])) _
    refine st41.trans ?_
    show Steps _ _ _ (T41.setTop (mkF m 32 #[vR a1, vR a2, vI 2, vI 6, vI 3, vI 2] [iI (own_sep x3)])) _
    refine XS.ifNo X41.here hx rfl (hb hby d5_32) rfl ((if0 _ _).trans (feq hx3).1) ?_
    show Steps _ _ _ (T41.setTop (mkF m 35 #[vR a1, vR a2, vI 2, vI 6, vI 3, vI 2] [])) _
    refine XS.iinc X41.here hx rfl (hb hby d5_35) rfl (l' := #[vR a1, vR a2, vI 2, vI 6, vI ((3 : Int32) + (1 : Int32)), vI 2]) rfl ?_
    rw [(by decide : ((3 : Int32) + (1 : Int32)) = (4 : Int32))]
    show Steps _ _ _ (T41.setTop (mkF m 38 #[vR a1, vR a2, vI 2, vI 6, vI 4, vI 2] [])) _
    refine XS.goto X41.here hx rfl (pc0 := 38) (pc' := 19) rfl (hb hby d5_38) (by decide) (by decide) ?_
    show Steps _ _ _ (T41.setTop (mkF m 19 #[vR a1, vR a2, vI 2, vI 6, vI 4, vI 2] [])) _
    refine XS.iload X41.here hx rfl (hb hby d5_19) rfl ?_
    show Steps _ _ _ (T41.setTop (mkF m 21 #[vR a1, vR a2, vI 2, vI 6, vI 4, vI 2] [iI 4])) _
    refine XS.iloadN X41.here hx rfl (hb hby d5_21) rfl ?_
    show Steps _ _ _ (T41.setTop (mkF m 22 #[vR a1, vR a2, vI 2, vI 6, vI 4, vI 2] [iI 6, iI 4])) _
    refine XS.icmpNo X41.here hx rfl (hb hby d5_22) rfl (tlt (by decide : (4 : Int32) < (6 : Int32))).2.1 ?_
    show Steps _ _ _ (T41.setTop (mkF m 25 #[vR a1, vR a2, vI 2, vI 6, vI 4, vI 2] [])) _
    refine XS.aloadN X41.here hx rfl (hb hby d5_25) rfl rfl ?_
    show Steps _ _ _ (T41.setTop (mkF m 26 #[vR a1, vR a2, vI 2, vI 6, vI 4, vI 2] [iR a2])) _
    refine XS.iload X41.here hx rfl (hb hby d5_26) rfl ?_
    show Steps _ _ _ (T41.setTop (mkF m 28 #[vR a1, vR a2, vI 2, vI 6, vI 4, vI 2] [iI 4, iR a2])) _
    refine X41.baloadBytes hx (j := (4 : Int32)) (v := (.int x4)) (by rw [e41]; exact Ar38.1) (State.isArrayOf_alike hZ.alike Ar38.2.1) Ar38.2.2 hin42 hat43 (g := (mkF m 28 #[vR a1, vR a2, vI 2, vI 6, vI 4, vI 2] [iI 4, iR a2])) rfl rfl (hb hby d5_28) _ ?_
    show Steps _ _ _ (T41.setTop (mkF m 29 #[vR a1, vR a2, vI 2, vI 6, vI 4, vI 2] [iI x4])) _
    refine st44.trans ?_
    show Steps _ _ _ (T44.setTop (mkF m 32 #[vR a1, vR a2, vI 2, vI 6, vI 4, vI 2] [iI (own_sep x4)])) _
    refine XS.ifYes X44.here hx rfl (pc0 := 32) (pc' := 41) rfl (hb hby d5_32) rfl ((if0 _ _).trans (teq hx4).1) (by decide) (by decide) ?_
    show Steps _ _ _ (T44.setTop (mkF m 41 #[vR a1, vR a2, vI 2, vI 6, vI 4, vI 2] [])) _
    refine XS.iload X44.here hx rfl (hb hby d5_41) rfl ?_
    show Steps _ _ _ (T44.setTop (mkF m 43 #[vR a1, vR a2, vI 2, vI 6, vI 4, vI 2] [iI 4])) _
    refine XS.istore X44.here hx rfl (hb hby d5_43) rfl (l' := #[vR a1, vR a2, vI 2, vI 6, vI 4, vI 4]) rfl ?_
    show Steps _ _ _ (T44.setTop (mkF m 45 #[vR a1, vR a2, vI 2, vI 6, vI 4, vI 4] [])) _
    refine XS.iload X44.here hx rfl (hb hby d5_45) rfl ?_
    show Steps _ _ _ (T44.setTop (mkF m 47 #[vR a1, vR a2, vI 2, vI 6, vI 4, vI 4] [iI 4])) _
    refine XS.iloadN X44.here hx rfl (hb hby d5_47) rfl ?_
    show Steps _ _ _ (T44.setTop (mkF m 48 #[vR a1, vR a2, vI 2, vI 6, vI 4, vI 4] [iI 6, iI 4])) _
    refine XS.icmpNo X44.here hx rfl (hb hby d5_48) rfl (tlt (by decide : (4 : Int32) < (6 : Int32))).2.1 ?_
    show Steps _ _ _ (T44.setTop (mkF m 51 #[vR a1, vR a2, vI 2, vI 6, vI 4, vI 4] [])) _
    refine XS.aloadN X44.here hx rfl (hb hby d5_51) rfl rfl ?_
    show Steps _ _ _ (T44.setTop (mkF m 52 #[vR a1, vR a2, vI 2, vI 6, vI 4, vI 4] [iR a2])) _
    refine XS.iload X44.here hx rfl (hb hby d5_52) rfl ?_
    show Steps _ _ _ (T44.setTop (mkF m 54 #[vR a1, vR a2, vI 2, vI 6, vI 4, vI 4] [iI 4, iR a2])) _
    refine X44.baloadBytes hx (j := (4 : Int32)) (v := (.int x4)) (by rw [e44]; exact Ar38.1) (State.isArrayOf_alike hZ.alike Ar38.2.1) Ar38.2.2 hin45 hat46 (g := (mkF m 54 #[vR a1, vR a2, vI 2, vI 6, vI 4, vI 4] [iI 4, iR a2])) rfl rfl (hb hby d5_54) _ ?_
    show Steps _ _ _ (T44.setTop (mkF m 55 #[vR a1, vR a2, vI 2, vI 6, vI 4, vI 4] [iI x4])) _
    refine st47.trans ?_
    show Steps _ _ _ (T47.setTop (mkF m 58 #[vR a1, vR a2, vI 2, vI 6, vI 4, vI 4] [iI (own_sep x4)])) _
    refine XS.ifNo X47.here hx rfl (hb hby d5_58) rfl ((if0 _ _).trans (teq hx4).2) ?_
    show Steps _ _ _ (T47.setTop (mkF m 61 #[vR a1, vR a2, vI 2, vI 6, vI 4, vI 4] [])) _
    refine XS.iinc X47.here hx rfl (hb hby d5_61) rfl (l' := #[vR a1, vR a2, vI 2, vI 6, vI ((4 : Int32) + (1 : Int32)), vI 4]) rfl ?_
    rw [(by decide : ((4 : Int32) + (1 : Int32)) = (5 : Int32))]
    show Steps _ _ _ (T47.setTop (mkF m 64 #[vR a1, vR a2, vI 2, vI 6, vI 5, vI 4] [])) _
    refine XS.goto X47.here hx rfl (pc0 := 64) (pc' := 45) rfl (hb hby d5_64) (by decide) (by decide) ?_
    show Steps _ _ _ (T47.setTop (mkF m 45 #[vR a1, vR a2, vI 2, vI 6, vI 5, vI 4] [])) _
    refine XS.iload X47.here hx rfl (hb hby d5_45) rfl ?_
    show Steps _ _ _ (T47.setTop (mkF m 47 #[vR a1, vR a2, vI 2, vI 6, vI 5, vI 4] [iI 5])) _
    refine XS.iloadN X47.here hx rfl (hb hby d5_47) rfl ?_
    show Steps _ _ _ (T47.setTop (mkF m 48 #[vR a1, vR a2, vI 2, vI 6, vI 5, vI 4] [iI 6, iI 5])) _
    refine XS.icmpNo X47.here hx rfl (hb hby d5_48) rfl (tlt (by decide : (5 : Int32) < (6 : Int32))).2.1 ?_
    show Steps _ _ _ (T47.setTop (mkF m 51 #[vR a1, vR a2, vI 2, vI 6, vI 5, vI 4] [])) _
    refine XS.aloadN X47.here hx rfl (hb hby d5_51) rfl rfl ?_
    show Steps _ _ _ (T47.setTop (mkF m 52 #[vR a1, vR a2, vI 2, vI 6, vI 5, vI 4] [iR a2])) _
    refine XS.iload X47.here hx rfl (hb hby d5_52) rfl ?_
    show Steps _ _ _ (T47.setTop (mkF m 54 #[vR a1, vR a2, vI 2, vI 6, vI 5, vI 4] [iI 5, iR a2])) _
    refine X47.baloadBytes hx (j := (5 : Int32)) (v := (.int x5)) (by rw [e47]; exact Ar38.1) (State.isArrayOf_alike hZ.alike Ar38.2.1) Ar38.2.2 hin48 hat49 (g := (mkF m 54 #[vR a1, vR a2, vI 2, vI 6, vI 5, vI 4] [iI 5, iR a2])) rfl rfl (hb hby d5_54) _ ?_
    show Steps _ _ _ (T47.setTop (mkF m 55 #[vR a1, vR a2, vI 2, vI 6, vI 5, vI 4] [iI x5])) _
    refine st50.trans ?_
    show Steps _ _ _ (T50.setTop (mkF m 58 #[vR a1, vR a2, vI 2, vI 6, vI 5, vI 4] [iI (own_sep x5)])) _
    refine XS.ifNo X50.here hx rfl (hb hby d5_58) rfl ((if0 _ _).trans (teq hx5).2) ?_
    show Steps _ _ _ (T50.setTop (mkF m 61 #[vR a1, vR a2, vI 2, vI 6, vI 5, vI 4] [])) _
    refine XS.iinc X50.here hx rfl (hb hby d5_61) rfl (l' := #[vR a1, vR a2, vI 2, vI 6, vI ((5 : Int32) + (1 : Int32)), vI 4]) rfl ?_
    rw [(by decide : ((5 : Int32) + (1 : Int32)) = (6 : Int32))]
    show Steps _ _ _ (T50.setTop (mkF m 64 #[vR a1, vR a2, vI 2, vI 6, vI 6, vI 4] [])) _
    refine XS.goto X50.here hx rfl (pc0 := 64) (pc' := 45) rfl (hb hby d5_64) (by decide) (by decide) ?_
    show Steps _ _ _ (T50.setTop (mkF m 45 #[vR a1, vR a2, vI 2, vI 6, vI 6, vI 4] [])) _
    refine XS.iload X50.here hx rfl (hb hby d5_45) rfl ?_
    show Steps _ _ _ (T50.setTop (mkF m 47 #[vR a1, vR a2, vI 2, vI 6, vI 6, vI 4] [iI 6])) _
    refine XS.iloadN X50.here hx rfl (hb hby d5_47) rfl ?_
    show Steps _ _ _ (T50.setTop (mkF m 48 #[vR a1, vR a2, vI 2, vI 6, vI 6, vI 4] [iI 6, iI 6])) _
    refine XS.icmpYes X50.here hx rfl (pc0 := 48) (pc' := 67) rfl (hb hby d5_48) rfl (flt (by decide : ¬ ((6 : Int32) < (6 : Int32)))).2.1 (by decide) (by decide) ?_
    show Steps _ _ _ (T50.setTop (mkF m 67 #[vR a1, vR a2, vI 2, vI 6, vI 6, vI 4] [])) _
    refine XS.iload X50.here hx rfl (hb hby d5_67) rfl ?_
    show Steps _ _ _ (T50.setTop (mkF m 69 #[vR a1, vR a2, vI 2, vI 6, vI 6, vI 4] [iI 6])) _
    refine XS.iload X50.here hx rfl (hb hby d5_69) rfl ?_
    show Steps _ _ _ (T50.setTop (mkF m 71 #[vR a1, vR a2, vI 2, vI 6, vI 6, vI 4] [iI 4, iI 6])) _
    refine XS.icmpNo X50.here hx rfl (hb hby d5_71) rfl (tlt (by decide : (4 : Int32) < (6 : Int32))).2.2.2 ?_
    show Steps _ _ _ (T50.setTop (mkF m 74 #[vR a1, vR a2, vI 2, vI 6, vI 6, vI 4] [])) _
    refine XS.aloadN X50.here hx rfl (hb hby d5_74) rfl rfl ?_
    show Steps _ _ _ (T50.setTop (mkF m 75 #[vR a1, vR a2, vI 2, vI 6, vI 6, vI 4] [iR a1])) _
    refine st51 _ ?_
    show Steps _ _ _ (T51.setTop (mkF m 78 #[vR a1, vR a2, vI 2, vI 6, vI 6, vI 4] [iI 1])) _
    refine XS.aloadN X51.here hx rfl (hb hby d5_78) rfl rfl ?_
    show Steps _ _ _ (T51.setTop (mkF m 79 #[vR a1, vR a2, vI 2, vI 6, vI 6, vI 4] [iR a1, iI 1])) _
    refine st53 _ ?_
    show Steps _ _ _ (T53.setTop (mkF m 82 #[vR a1, vR a2, vI 2, vI 6, vI 6, vI 4] [iR s1, iI 1])) _
    refine X53.arraylength hx (by rw [e53]; exact Ar55.1) (State.isArrayOf_alike hZ.alike Ar55.2.1) (g := (mkF m 82 #[vR a1, vR a2, vI 2, vI 6, vI 6, vI 4] [iR s1, iI 1])) rfl rfl (hb hby d5_82) _ ?_
    rw [len_of S55 M55]
    show Steps _ _ _ (T53.setTop (mkF m 83 #[vR a1, vR a2, vI 2, vI 6, vI 6, vI 4] [iI 16, iI 1])) _
    refine XS.icmpYes X53.here hx rfl (pc0 := 83) (pc' := 120) rfl (hb hby d5_83) rfl (feq (by decide : ¬ ((1 : Int32) = (16 : Int32)))).2 (by decide) (by decide) ?_
    show Steps _ _ _ (T53.setTop (mkF m 120 #[vR a1, vR a2, vI 2, vI 6, vI 6, vI 4] [])) _
    refine XS.aloadN X53.here hx rfl (hb hby d5_120) rfl rfl ?_
    show Steps _ _ _ (T53.setTop (mkF m 121 #[vR a1, vR a2, vI 2, vI 6, vI 6, vI 4] [iR a1])) _
    refine st56 _ ?_
    show Steps _ _ _ (T56.setTop (mkF m 124 #[vR a1, vR a2, vI 2, vI 6, vI 6, vI 4] [iR s1])) _
    refine XS.aloadN X56.here hx rfl (hb hby d5_124) rfl rfl ?_
    show Steps _ _ _ (T56.setTop (mkF m 125 #[vR a1, vR a2, vI 2, vI 6, vI 6, vI 4] [iR a1, iR s1])) _
    refine st57 _ ?_
    show Steps _ _ _ (T57.setTop (mkF m 128 #[vR a1, vR a2, vI 2, vI 6, vI 6, vI 4] [iI 1, iR s1])) _
    refine XS.iload X57.here hx rfl (hb hby d5_128) rfl ?_
    show Steps _ _ _ (T57.setTop (mkF m 130 #[vR a1, vR a2, vI 2, vI 6, vI 6, vI 4] [iI 4, iI 1, iR s1])) _
    refine st59 _ ?_
    show Steps _ _ _ (T59.setTop (mkF m 131 #[vR a1, vR a2, vI 2, vI 6, vI 6, vI 4] [])) _
    refine XS.aloadN X59.here hx rfl (hb hby d5_131) rfl rfl ?_
    show Steps _ _ _ (T59.setTop (mkF m 132 #[vR a1, vR a2, vI 2, vI 6, vI 6, vI 4] [iR a1])) _
    refine st61 _ ?_
    show Steps _ _ _ (T61.setTop (mkF m 135 #[vR a1, vR a2, vI 2, vI 6, vI 6, vI 4] [iR s2])) _
    refine XS.aloadN X61.here hx rfl (hb hby d5_135) rfl rfl ?_
    show Steps _ _ _ (T61.setTop (mkF m 136 #[vR a1, vR a2, vI 2, vI 6, vI 6, vI 4] [iR a1, iR s2])) _
    refine st63 _ ?_
    show Steps _ _ _ (T63.setTop (mkF m 139 #[vR a1, vR a2, vI 2, vI 6, vI 6, vI 4] [iI 1, iR s2])) _
    refine XS.iload X63.here hx rfl (hb hby d5_139) rfl ?_
    show Steps _ _ _ (T63.setTop (mkF m 141 #[vR a1, vR a2, vI 2, vI 6, vI 6, vI 4] [iI 6, iI 1, iR s2])) _
    refine st67 _ ?_
    show Steps _ _ _ (T67.setTop (mkF m 142 #[vR a1, vR a2, vI 2, vI 6, vI 6, vI 4] [])) _
    refine XS.aloadN X67.here hx rfl (hb hby d5_142) rfl rfl ?_
    show Steps _ _ _ (T67.setTop (mkF m 143 #[vR a1, vR a2, vI 2, vI 6, vI 6, vI 4] [iR a1])) _
    refine XS.dup X67.here hx rfl (hb hby d5_143) rfl rfl ?_
    show Steps _ _ _ (T67.setTop (mkF m 144 #[vR a1, vR a2, vI 2, vI 6, vI 6, vI 4] [iR a1, iR a1])) _
    refine st69 _ ?_
    show Steps _ _ _ (T69.setTop (mkF m 147 #[vR a1, vR a2, vI 2, vI 6, vI 6, vI 4] [iI 1, iR a1])) _
    refine XS.iconst X69.here hx rfl (hb hby d5_147) ?_
    show Steps _ _ _ (T69.setTop (mkF m 148 #[vR a1, vR a2, vI 2, vI 6, vI 6, vI 4] [iI 1, iI 1, iR a1])) _
    refine XS.iadd X69.here hx rfl (hb hby d5_148) rfl ?_
    rw [(by decide : ((1 : Int32) + (1 : Int32)) = (2 : Int32))]
    show Steps _ _ _ (T69.setTop (mkF m 149 #[vR a1, vR a2, vI 2, vI 6, vI 6, vI 4] [iI 2, iR a1])) _
    refine st71 _ ?_
    show Steps _ _ _ (T71.setTop (mkF m 152 #[vR a1, vR a2, vI 2, vI 6, vI 6, vI 4] [])) _
    refine XS.goto X71.here hx rfl (pc0 := 152) (pc' := 13) rfl (hb hby d5_152) (by decide) (by decide) ?_
    show Steps _ _ _ (T71.setTop (mkF m 13 #[vR a1, vR a2, vI 2, vI 6, vI 6, vI 4] [])) _
    refine XS.iload X71.here hx rfl (hb hby d5_13) rfl ?_
    show Steps _ _ _ (T71.setTop (mkF m 15 #[vR a1, vR a2, vI 2, vI 6, vI 6, vI 4] [iI 6])) _
    refine XS.iloadN X71.here hx rfl (hb hby d5_15) rfl ?_
    show Steps _ _ _ (T71.setTop (mkF m 16 #[vR a1, vR a2, vI 2, vI 6, vI 6, vI 4] [iI 6, iI 6])) _
    refine XS.icmpYes X71.here hx rfl (pc0 := 16) (pc' := 155) rfl (hb hby d5_16) rfl (flt (by decide : ¬ ((6 : Int32) < (6 : Int32)))).2.1 (by decide) (by decide) ?_
    show Steps _ _ _ (T71.setTop (mkF m 155 #[vR a1, vR a2, vI 2, vI 6, vI 6, vI 4] [])) _
    exact X71.returnOut hx Bd.returns (hb hby d5_155) hr
  · show Q5_2_6 Z a1 a2 s1 s2 k1 k2 kl x0 x1 x2 x3 x4 x5 x6 h0 n0 _ T71.heap _
    rw [e71]
    exact ⟨rfl, N71, K71, fk72, fk73, fk74, fk75, fk76, fk77⟩
theorem ef_5_2_7 (m : MethodId) (x0 : Addr) (x1 : Addr) : entryFrame m #[(.ref x0), (.ref x1), (.int (2 : Int32)), (.int (7 : Int32))] 6 = mkF m 0 #[.val (.ref x0), .val (.ref x1), .val (.int (2 : Int32)), .val (.int (7 : Int32)), .unset, .unset] [] := by first | (simp [entryFrame, mkF, argsToLocals, Value.category]; done) | rfl
def Q5_2_7 (Z : State) (a1 : Addr) (a2 : Addr) (s1 s2 : Addr) (k1 k2 kl : ClassId) (x0 : Int32) (x1 : Int32) (x2 : Int32) (x3 : Int32) (x4 : Int32) (x5 : Int32) (x6 : Int32) (h0 : Heap) (n0 : Nat) (v : Option Value) (h : Heap) (L : List Loc) : Prop := v = none ∧ Fr n0 L ∧ Keep h0 h [a1, s1, s2] ∧ Exa Z h a1 "com/example/tidemine/tidemine/TextFormat$Tokens" ∧ Fld Z h a1 "com/example/tidemine/tidemine/TextFormat$Tokens" "line" "[B" (.ref a2) ∧ Fld Z h a1 "com/example/tidemine/tidemine/TextFormat$Tokens" "starts" "[I" (.ref s1) ∧ Fld Z h a1 "com/example/tidemine/tidemine/TextFormat$Tokens" "ends" "[I" (.ref s2) ∧ Arv Z h s1 k1 .int (16 : Int32) [(.int (2 : Int32)), (.int (4 : Int32)), (.int (0 : Int32)), (.int (0 : Int32)), (.int (0 : Int32)), (.int (0 : Int32)), (.int (0 : Int32)), (.int (0 : Int32)), (.int (0 : Int32)), (.int (0 : Int32)), (.int (0 : Int32)), (.int (0 : Int32)), (.int (0 : Int32)), (.int (0 : Int32)), (.int (0 : Int32)), (.int (0 : Int32))] (.int (0 : Int32)) ∧ Arv Z h s2 k2 .int (16 : Int32) [(.int (3 : Int32)), (.int (7 : Int32)), (.int (0 : Int32)), (.int (0 : Int32)), (.int (0 : Int32)), (.int (0 : Int32)), (.int (0 : Int32)), (.int (0 : Int32)), (.int (0 : Int32)), (.int (0 : Int32)), (.int (0 : Int32)), (.int (0 : Int32)), (.int (0 : Int32)), (.int (0 : Int32)), (.int (0 : Int32)), (.int (0 : Int32))] (.int (0 : Int32))
set_option maxRecDepth 65536 in
set_option maxHeartbeats 40000000 in
theorem rm5_2_7 (l : Launch) (Z : State) (a0 : Array Value) (hw : ∀ d ∈ tables_1, d.before a0 Z = true) (ws : List Jvm.Cond) (a1 : Addr) (a2 : Addr) (s1 s2 : Addr) (k1 k2 kl : ClassId) (x0 : Int32) (x1 : Int32) (x2 : Int32) (x3 : Int32) (x4 : Int32) (x5 : Int32) (x6 : Int32) (h0 : Heap) (n0 : Nat) (Z0 : n0 ≤ h0.size) (E_a1 : Exa Z h0 a1 "com/example/tidemine/tidemine/TextFormat$Tokens") (g_a1 : n0 ≤ a1) (g_s1 : n0 ≤ s1) (g_s2 : n0 ≤ s2) (F_line : Fld Z h0 a1 "com/example/tidemine/tidemine/TextFormat$Tokens" "line" "[B" .null) (F_starts : Fld Z h0 a1 "com/example/tidemine/tidemine/TextFormat$Tokens" "starts" "[I" (.ref s1)) (F_ends : Fld Z h0 a1 "com/example/tidemine/tidemine/TextFormat$Tokens" "ends" "[I" (.ref s2)) (F_count : Fld Z h0 a1 "com/example/tidemine/tidemine/TextFormat$Tokens" "count" "I" (.int (0 : Int32))) (V_1 : Arv Z h0 s1 k1 .int (16 : Int32) [(.int (0 : Int32)), (.int (0 : Int32)), (.int (0 : Int32)), (.int (0 : Int32)), (.int (0 : Int32)), (.int (0 : Int32)), (.int (0 : Int32)), (.int (0 : Int32)), (.int (0 : Int32)), (.int (0 : Int32)), (.int (0 : Int32)), (.int (0 : Int32)), (.int (0 : Int32)), (.int (0 : Int32)), (.int (0 : Int32)), (.int (0 : Int32))] (.int (0 : Int32))) (V_2 : Arv Z h0 s2 k2 .int (16 : Int32) [(.int (0 : Int32)), (.int (0 : Int32)), (.int (0 : Int32)), (.int (0 : Int32)), (.int (0 : Int32)), (.int (0 : Int32)), (.int (0 : Int32)), (.int (0 : Int32)), (.int (0 : Int32)), (.int (0 : Int32)), (.int (0 : Int32)), (.int (0 : Int32)), (.int (0 : Int32)), (.int (0 : Int32)), (.int (0 : Int32)), (.int (0 : Int32))] (.int (0 : Int32))) (V_l : Arv Z h0 a2 kl .byte (7 : Int32) [(.int x0), (.int x1), (.int x2), (.int x3), (.int x4), (.int x5), (.int x6)] (.int (0 : Int32))) (ne_a1_a2 : a1 ≠ a2) (ne_a1_s1 : a1 ≠ s1) (ne_a1_s2 : a1 ≠ s2) (ne_a2_s1 : a2 ≠ s1) (ne_a2_s2 : a2 ≠ s2) (ne_s1_s2 : s1 ≠ s2) (hx0 : (own_sep x0) = (0 : Int32)) (hx1 : (own_sep x1) = (0 : Int32)) (hx2 : (own_sep x2) = (0 : Int32)) (hx3 : ¬ (own_sep x3) = (0 : Int32)) (hx4 : (own_sep x4) = (0 : Int32)) (hx5 : (own_sep x5) = (0 : Int32)) (hx6 : (own_sep x6) = (0 : Int32)) :
    MetFree l (⟨"com/example/tidemine/tidemine/TextFormat$Tokens", "split", "([BII)V"⟩ : MethodName) (head1 (Jvm.Cond.code (⟨"com/example/tidemine/tidemine/TextFormat$Tokens", "split", "([BII)V"⟩ : MethodName) prog_41_method_2_code 6 none :: ws) ({ frames := 1, cells := 0, slots := 0, locals := 12 } : Room)) (fun a U => a = #[(.ref a1), (.ref a2), (.int (2 : Int32)), (.int (7 : Int32))] ∧ Z.Warmed39 U.vm ∧ U.heap = h0) (fun _ _ _ _ _ => True) (fun _ U o U' => ∃ v L, o = .returned v ∧ Q5_2_7 Z a1 a2 s1 s2 k1 k2 kl x0 x1 x2 x3 x4 x5 x6 h0 n0 v U'.heap L ∧ FrameEnd U o U' L ({ frames := 1, cells := 0, slots := 0, locals := 12 } : Room).cells ({ frames := 1, cells := 0, slots := 0, locals := 12 } : Room).slots) := by
  refine MetFree.of_bodySF (plainFor_of_name pn_2) hisR ?_
  intro p e s m args below meth c s₁ Bd hml0 hP hK
  obtain ⟨rfl, hZ, hh⟩ := hP
  have hx := Bd.exec
  have hby := Bd.bytes
  have hml : c.maxLocals = 6 := hml0
  have hown : s.vm.findClass "com/example/tidemine/tidemine/TextFormat$Tokens" = some m.cls := findClass_of_methodNamed Bd.named
  have hnm := (name_of_methodNamed Bd.named Bd.method).1
  have X0 : Stand p l e ({ frames := 1, cells := 0, slots := 0, locals := 12 } : Room) s m #[(.ref a1), (.ref a2), (.int (2 : Int32)), (.int (7 : Int32))] below meth c s₁ [] 0 0 := Stand.of_body Bd
  have e0 : s₁.heap = h0 := by rw [← hh, Bd.state]; rfl
  have N0 := Fr.nil n0
  have K0 := Keep.refl h0 [a1, s1, s2]
  have pre0 : ∀ t, Steps p.tables e below (s₁.setTop (mkF m 0 #[.val (.ref a1), .val (.ref a2), .val (.int (2 : Int32)), .val (.int (7 : Int32)), .unset, .unset] [])) t → Steps p.tables e below (s₁.setTop (entryFrame m #[(.ref a1), (.ref a2), (.int (2 : Int32)), (.int (7 : Int32))] 6)) t := fun t k => castTop (ef_5_2_7 m a1 a2) k
  obtain ⟨T1, h1, X1, e1, W1, st1⟩ := putF X0 hx hZ hown (host := "") (Or.inl (hw _ (List.mem_of_getElem? (i := 28) rfl))) Via.refl e0 F_line E_a1 (Or.inl (hw _ (List.mem_of_getElem? (i := 29) rfl))) (hw _ (List.mem_of_getElem? (i := 10) rfl)) (ty := (.array .byte)) (by decide) rfl rfl (g := (mkF m 2 #[vR a1, vR a2, vI 2, vI 7, .unset, .unset] [iR a2, iR a1])) rfl rfl (hb hby d5_2)
  have Fw1 := F_line.same W1
  have K1 : Keep h0 h1 [a1, s1, s2] := K0.wr W1 (Or.inl (List.mem_of_getElem? (i := 0) rfl))
  have N1 := Fr.snoc X1 N0 g_a1
  have fk2 := (F_count.other W1 (Or.inr (slot_ne (Or.inl (hw _ (List.mem_of_getElem? (i := 31) rfl))) (Or.inl (hw _ (List.mem_of_getElem? (i := 29) rfl))) (by decide) (t := .int) (t' := (.array .byte)) (by decide) (by decide))))
  have fk3 := (E_a1.wr W1)
  obtain ⟨T4, h4, X4, e4, W4, st4⟩ := putF X1 hx hZ hown (host := "") (Or.inl (hw _ (List.mem_of_getElem? (i := 30) rfl))) Via.refl e1 fk2 fk3 (Or.inl (hw _ (List.mem_of_getElem? (i := 31) rfl))) (hw _ (List.mem_of_getElem? (i := 10) rfl)) (ty := .int) (by decide) rfl rfl (g := (mkF m 7 #[vR a1, vR a2, vI 2, vI 7, .unset, .unset] [iI 0, iR a1])) rfl rfl (hb hby d5_7)
  have Fw4 := fk2.same W4
  have K4 : Keep h0 h4 [a1, s1, s2] := K1.wr W4 (Or.inl (List.mem_of_getElem? (i := 0) rfl))
  have N4 := Fr.snoc X4 N1 g_a1
  have fk5 := ((V_l.other W1 (Ne.symm ne_a1_a2)).other W4 (Ne.symm ne_a1_a2))
  obtain ⟨cl6, Ar6, q6, S6, M6, H6, G6⟩ := id fk5
  have hin7 : ¬ ((2 : Int32) < 0 ∨ cl6.slots.size ≤ ((2 : Int32)).toNatClampNeg) := inb_of S6 ⟨by decide, by decide⟩
  have hat8 : cl6.slots[((2 : Int32)).toNatClampNeg]? = some (.int x2) := Has.at H6 hin7 rfl
  obtain ⟨_, _, ⟨T9, L9, k9, n9⟩, -, X9, ⟨Lc9, hQ9, l9, y9, z9⟩, st9⟩ := callSN X4 hx (y := (⟨"com/example/tidemine/tidemine/TextFormat", "isSeparator", "(B)Z"⟩ : MethodName)) hown (Cond.methodLinkNest_wide hZ (hw _ (List.mem_of_getElem? (i := 32) rfl))) (mvT hZ (hw _ (List.mem_of_getElem? (i := 33) rfl))) (mvT hZ (hw _ (List.mem_of_getElem? (i := 34) rfl))) (mvT hZ (hw _ (List.mem_of_getElem? (i := 35) rfl))) (by decide) (backOf (W := 0) (rm6 l Z a0 hw [] x2 h4 ) hZ (hw _ (List.mem_of_getElem? (i := 35) rfl)) (hw _ (List.mem_of_getElem? (i := 34) rfl)) (by decide) (by decide)) (g := (mkF m 29 #[vR a1, vR a2, vI 2, vI 7, vI 2, .unset] [iI x2])) rfl (by rw [hml]; rfl) (argsL := [(.int x2)]) (rest := []) (lenOf pd_0 rfl) rfl (by show 2 * 0 + _ ≤ _; exact Nat.le_of_eq rfl) (hb hby d5_29) (fun _ _ => ⟨rfl, e4, (by decide : 0 + 0 ≤ _), (by decide : 0 + 0 ≤ _)⟩)
  dsimp only [Pt.U, Pt.locs, Pt.cells, Pt.slots] at X9 l9 y9 z9 st9 hQ9
  subst l9 y9 z9
  obtain ⟨rfl, rfl, e9⟩ := hQ9
  try rw [List.append_nil] at X9
  have hin10 : ¬ ((2 : Int32) < 0 ∨ cl6.slots.size ≤ ((2 : Int32)).toNatClampNeg) := inb_of S6 ⟨by decide, by decide⟩
  have hat11 : cl6.slots[((2 : Int32)).toNatClampNeg]? = some (.int x2) := Has.at H6 hin10 rfl
  obtain ⟨_, _, ⟨T12, L12, k12, n12⟩, -, X12, ⟨Lc12, hQ12, l12, y12, z12⟩, st12⟩ := callSN X9 hx (y := (⟨"com/example/tidemine/tidemine/TextFormat", "isSeparator", "(B)Z"⟩ : MethodName)) hown (Cond.methodLinkNest_wide hZ (hw _ (List.mem_of_getElem? (i := 32) rfl))) (mvT hZ (hw _ (List.mem_of_getElem? (i := 33) rfl))) (mvT hZ (hw _ (List.mem_of_getElem? (i := 34) rfl))) (mvT hZ (hw _ (List.mem_of_getElem? (i := 35) rfl))) (by decide) (backOf (W := 0) (rm6 l Z a0 hw [] x2 h4 ) hZ (hw _ (List.mem_of_getElem? (i := 35) rfl)) (hw _ (List.mem_of_getElem? (i := 34) rfl)) (by decide) (by decide)) (g := (mkF m 55 #[vR a1, vR a2, vI 2, vI 7, vI 2, vI 2] [iI x2])) rfl (by rw [hml]; rfl) (argsL := [(.int x2)]) (rest := []) (lenOf pd_0 rfl) rfl (by show 2 * 0 + _ ≤ _; exact Nat.le_of_eq rfl) (hb hby d5_55) (fun _ _ => ⟨rfl, e9, (by decide : 0 + 0 ≤ _), (by decide : 0 + 0 ≤ _)⟩)
  dsimp only [Pt.U, Pt.locs, Pt.cells, Pt.slots] at X12 l12 y12 z12 st12 hQ12
  subst l12 y12 z12
  obtain ⟨rfl, rfl, e12⟩ := hQ12
  try rw [List.append_nil] at X12
  have hin13 : ¬ ((3 : Int32) < 0 ∨ cl6.slots.size ≤ ((3 : Int32)).toNatClampNeg) := inb_of S6 ⟨by decide, by decide⟩
  have hat14 : cl6.slots[((3 : Int32)).toNatClampNeg]? = some (.int x3) := Has.at H6 hin13 rfl
  obtain ⟨_, _, ⟨T15, L15, k15, n15⟩, -, X15, ⟨Lc15, hQ15, l15, y15, z15⟩, st15⟩ := callSN X12 hx (y := (⟨"com/example/tidemine/tidemine/TextFormat", "isSeparator", "(B)Z"⟩ : MethodName)) hown (Cond.methodLinkNest_wide hZ (hw _ (List.mem_of_getElem? (i := 32) rfl))) (mvT hZ (hw _ (List.mem_of_getElem? (i := 33) rfl))) (mvT hZ (hw _ (List.mem_of_getElem? (i := 34) rfl))) (mvT hZ (hw _ (List.mem_of_getElem? (i := 35) rfl))) (by decide) (backOf (W := 0) (rm6 l Z a0 hw [] x3 h4 ) hZ (hw _ (List.mem_of_getElem? (i := 35) rfl)) (hw _ (List.mem_of_getElem? (i := 34) rfl)) (by decide) (by decide)) (g := (mkF m 55 #[vR a1, vR a2, vI 2, vI 7, vI 3, vI 2] [iI x3])) rfl (by rw [hml]; rfl) (argsL := [(.int x3)]) (rest := []) (lenOf pd_0 rfl) rfl (by show 2 * 0 + _ ≤ _; exact Nat.le_of_eq rfl) (hb hby d5_55) (fun _ _ => ⟨rfl, e12, (by decide : 0 + 0 ≤ _), (by decide : 0 + 0 ≤ _)⟩)
  dsimp only [Pt.U, Pt.locs, Pt.cells, Pt.slots] at X15 l15 y15 z15 st15 hQ15
  subst l15 y15 z15
  obtain ⟨rfl, rfl, e15⟩ := hQ15
  try rw [List.append_nil] at X15
  obtain ⟨T16, X16, e16, st16⟩ := getF X15 hx hZ hown (host := "") (Or.inl (hw _ (List.mem_of_getElem? (i := 30) rfl))) Via.refl e15 Fw4 (g := (mkF m 75 #[vR a1, vR a2, vI 2, vI 7, vI 3, vI 2] [iR a1])) rfl rfl (hb hby d5_75)
  have fk17 := ((F_starts.other W1 (Or.inr (slot_ne (Or.inl (hw _ (List.mem_of_getElem? (i := 20) rfl))) (Or.inl (hw _ (List.mem_of_getElem? (i := 29) rfl))) (by decide) (t := (.array .int)) (t' := (.array .byte)) (by decide) (by decide)))).other W4 (Or.inr (slot_ne (Or.inl (hw _ (List.mem_of_getElem? (i := 20) rfl))) (Or.inl (hw _ (List.mem_of_getElem? (i := 31) rfl))) (by decide) (t := (.array .int)) (t' := .int) (by decide) (by decide))))
  obtain ⟨T18, X18, e18, st18⟩ := getF X16 hx hZ hown (host := "") (Or.inl (hw _ (List.mem_of_getElem? (i := 19) rfl))) Via.refl e16 fk17 (g := (mkF m 79 #[vR a1, vR a2, vI 2, vI 7, vI 3, vI 2] [iR a1, iI 0])) rfl rfl (hb hby d5_79)
  have fk19 := ((V_1.other W1 (Ne.symm ne_a1_s1)).other W4 (Ne.symm ne_a1_s1))
  obtain ⟨cl20, Ar20, q20, S20, M20, H20, G20⟩ := id fk19
  obtain ⟨T21, X21, e21, st21⟩ := getF X18 hx hZ hown (host := "") (Or.inl (hw _ (List.mem_of_getElem? (i := 19) rfl))) Via.refl e18 fk17 (g := (mkF m 121 #[vR a1, vR a2, vI 2, vI 7, vI 3, vI 2] [iR a1])) rfl rfl (hb hby d5_121)
  obtain ⟨T22, X22, e22, st22⟩ := getF X21 hx hZ hown (host := "") (Or.inl (hw _ (List.mem_of_getElem? (i := 30) rfl))) Via.refl e21 Fw4 (g := (mkF m 125 #[vR a1, vR a2, vI 2, vI 7, vI 3, vI 2] [iR a1, iR s1])) rfl rfl (hb hby d5_125)
  have hin23 : ¬ ((0 : Int32) < 0 ∨ cl20.slots.size ≤ ((0 : Int32)).toNatClampNeg) := inb_of S20 ⟨by decide, by decide⟩
  obtain ⟨T24, h24, X24, e24, W24, st24⟩ := stI X22 hx hZ e22 Ar20 (j := (0 : Int32)) hin23 (g := (mkF m 130 #[vR a1, vR a2, vI 2, vI 7, vI 3, vI 2] [iI 2, iI 0, iR s1])) rfl rfl (hb hby d5_130)
  have V24 : Arv Z h24 s1 k1 .int (16 : Int32) [(.int (2 : Int32)), (.int (0 : Int32)), (.int (0 : Int32)), (.int (0 : Int32)), (.int (0 : Int32)), (.int (0 : Int32)), (.int (0 : Int32)), (.int (0 : Int32)), (.int (0 : Int32)), (.int (0 : Int32)), (.int (0 : Int32)), (.int (0 : Int32)), (.int (0 : Int32)), (.int (0 : Int32)), (.int (0 : Int32)), (.int (0 : Int32))] (.int (0 : Int32)) := Arv.set Ar20 q20 S20 M20 H20 G20 rfl W24 0 rfl (Nat.le_of_ble_eq_true rfl)
  have K24 : Keep h0 h24 [a1, s1, s2] := K4.wr W24 (Or.inl (List.mem_of_getElem? (i := 1) rfl))
  have N24 := Fr.snoc X24 N4 g_s1
  have fk25 := (((F_ends.other W1 (Or.inr (slot_ne (Or.inl (hw _ (List.mem_of_getElem? (i := 22) rfl))) (Or.inl (hw _ (List.mem_of_getElem? (i := 29) rfl))) (by decide) (t := (.array .int)) (t' := (.array .byte)) (by decide) (by decide)))).other W4 (Or.inr (slot_ne (Or.inl (hw _ (List.mem_of_getElem? (i := 22) rfl))) (Or.inl (hw _ (List.mem_of_getElem? (i := 31) rfl))) (by decide) (t := (.array .int)) (t' := .int) (by decide) (by decide)))).other W24 (Or.inl ne_a1_s1))
  obtain ⟨T26, X26, e26, st26⟩ := getF X24 hx hZ hown (host := "") (Or.inl (hw _ (List.mem_of_getElem? (i := 21) rfl))) Via.refl e24 fk25 (g := (mkF m 132 #[vR a1, vR a2, vI 2, vI 7, vI 3, vI 2] [iR a1])) rfl rfl (hb hby d5_132)
  have fk27 := (Fw4.other W24 (Or.inl ne_a1_s1))
  obtain ⟨T28, X28, e28, st28⟩ := getF X26 hx hZ hown (host := "") (Or.inl (hw _ (List.mem_of_getElem? (i := 30) rfl))) Via.refl e26 fk27 (g := (mkF m 136 #[vR a1, vR a2, vI 2, vI 7, vI 3, vI 2] [iR a1, iR s2])) rfl rfl (hb hby d5_136)
  have fk29 := (((V_2.other W1 (Ne.symm ne_a1_s2)).other W4 (Ne.symm ne_a1_s2)).other W24 (Ne.symm ne_s1_s2))
  obtain ⟨cl30, Ar30, q30, S30, M30, H30, G30⟩ := id fk29
  have hin31 : ¬ ((0 : Int32) < 0 ∨ cl30.slots.size ≤ ((0 : Int32)).toNatClampNeg) := inb_of S30 ⟨by decide, by decide⟩
  obtain ⟨T32, h32, X32, e32, W32, st32⟩ := stI X28 hx hZ e28 Ar30 (j := (0 : Int32)) hin31 (g := (mkF m 141 #[vR a1, vR a2, vI 2, vI 7, vI 3, vI 2] [iI 3, iI 0, iR s2])) rfl rfl (hb hby d5_141)
  have V32 : Arv Z h32 s2 k2 .int (16 : Int32) [(.int (3 : Int32)), (.int (0 : Int32)), (.int (0 : Int32)), (.int (0 : Int32)), (.int (0 : Int32)), (.int (0 : Int32)), (.int (0 : Int32)), (.int (0 : Int32)), (.int (0 : Int32)), (.int (0 : Int32)), (.int (0 : Int32)), (.int (0 : Int32)), (.int (0 : Int32)), (.int (0 : Int32)), (.int (0 : Int32)), (.int (0 : Int32))] (.int (0 : Int32)) := Arv.set Ar30 q30 S30 M30 H30 G30 rfl W32 0 rfl (Nat.le_of_ble_eq_true rfl)
  have K32 : Keep h0 h32 [a1, s1, s2] := K24.wr W32 (Or.inl (List.mem_of_getElem? (i := 2) rfl))
  have N32 := Fr.snoc X32 N24 g_s2
  have fk33 := (fk27.other W32 (Or.inl ne_a1_s2))
  obtain ⟨T34, X34, e34, st34⟩ := getF X32 hx hZ hown (host := "") (Or.inl (hw _ (List.mem_of_getElem? (i := 30) rfl))) Via.refl e32 fk33 (g := (mkF m 144 #[vR a1, vR a2, vI 2, vI 7, vI 3, vI 2] [iR a1, iR a1])) rfl rfl (hb hby d5_144)
  have fk35 := (((fk3.wr W4).wr W24).wr W32)
  obtain ⟨T36, h36, X36, e36, W36, st36⟩ := putF X34 hx hZ hown (host := "") (Or.inl (hw _ (List.mem_of_getElem? (i := 30) rfl))) Via.refl e34 fk33 fk35 (Or.inl (hw _ (List.mem_of_getElem? (i := 31) rfl))) (hw _ (List.mem_of_getElem? (i := 10) rfl)) (ty := .int) (by decide) rfl rfl (g := (mkF m 149 #[vR a1, vR a2, vI 2, vI 7, vI 3, vI 2] [iI 1, iR a1])) rfl rfl (hb hby d5_149)
  have Fw36 := fk33.same W36
  have K36 : Keep h0 h36 [a1, s1, s2] := K32.wr W36 (Or.inl (List.mem_of_getElem? (i := 0) rfl))
  have N36 := Fr.snoc X36 N32 g_a1
  have fk37 := (((fk5.other W24 ne_a2_s1).other W32 ne_a2_s2).other W36 (Ne.symm ne_a1_a2))
  obtain ⟨cl38, Ar38, q38, S38, M38, H38, G38⟩ := id fk37
  have hin39 : ¬ ((3 : Int32) < 0 ∨ cl38.slots.size ≤ ((3 : Int32)).toNatClampNeg) := inb_of S38 ⟨by decide, by decide⟩
  have hat40 : cl38.slots[((3 : Int32)).toNatClampNeg]? = some (.int x3) := Has.at H38 hin39 rfl
  obtain ⟨_, _, ⟨T41, L41, k41, n41⟩, -, X41, ⟨Lc41, hQ41, l41, y41, z41⟩, st41⟩ := callSN X36 hx (y := (⟨"com/example/tidemine/tidemine/TextFormat", "isSeparator", "(B)Z"⟩ : MethodName)) hown (Cond.methodLinkNest_wide hZ (hw _ (List.mem_of_getElem? (i := 32) rfl))) (mvT hZ (hw _ (List.mem_of_getElem? (i := 33) rfl))) (mvT hZ (hw _ (List.mem_of_getElem? (i := 34) rfl))) (mvT hZ (hw _ (List.mem_of_getElem? (i := 35) rfl))) (by decide) (backOf (W := 0) (rm6 l Z a0 hw [] x3 h36 ) hZ (hw _ (List.mem_of_getElem? (i := 35) rfl)) (hw _ (List.mem_of_getElem? (i := 34) rfl)) (by decide) (by decide)) (g := (mkF m 29 #[vR a1, vR a2, vI 2, vI 7, vI 3, vI 2] [iI x3])) rfl (by rw [hml]; rfl) (argsL := [(.int x3)]) (rest := []) (lenOf pd_0 rfl) rfl (by show 2 * 0 + _ ≤ _; exact Nat.le_of_eq rfl) (hb hby d5_29) (fun _ _ => ⟨rfl, e36, (by decide : 0 + 0 ≤ _), (by decide : 0 + 0 ≤ _)⟩)
  dsimp only [Pt.U, Pt.locs, Pt.cells, Pt.slots] at X41 l41 y41 z41 st41 hQ41
  subst l41 y41 z41
  obtain ⟨rfl, rfl, e41⟩ := hQ41
  try rw [List.append_nil] at X41
  have hin42 : ¬ ((4 : Int32) < 0 ∨ cl38.slots.size ≤ ((4 : Int32)).toNatClampNeg) := inb_of S38 ⟨by decide, by decide⟩
  have hat43 : cl38.slots[((4 : Int32)).toNatClampNeg]? = some (.int x4) := Has.at H38 hin42 rfl
  obtain ⟨_, _, ⟨T44, L44, k44, n44⟩, -, X44, ⟨Lc44, hQ44, l44, y44, z44⟩, st44⟩ := callSN X41 hx (y := (⟨"com/example/tidemine/tidemine/TextFormat", "isSeparator", "(B)Z"⟩ : MethodName)) hown (Cond.methodLinkNest_wide hZ (hw _ (List.mem_of_getElem? (i := 32) rfl))) (mvT hZ (hw _ (List.mem_of_getElem? (i := 33) rfl))) (mvT hZ (hw _ (List.mem_of_getElem? (i := 34) rfl))) (mvT hZ (hw _ (List.mem_of_getElem? (i := 35) rfl))) (by decide) (backOf (W := 0) (rm6 l Z a0 hw [] x4 h36 ) hZ (hw _ (List.mem_of_getElem? (i := 35) rfl)) (hw _ (List.mem_of_getElem? (i := 34) rfl)) (by decide) (by decide)) (g := (mkF m 29 #[vR a1, vR a2, vI 2, vI 7, vI 4, vI 2] [iI x4])) rfl (by rw [hml]; rfl) (argsL := [(.int x4)]) (rest := []) (lenOf pd_0 rfl) rfl (by show 2 * 0 + _ ≤ _; exact Nat.le_of_eq rfl) (hb hby d5_29) (fun _ _ => ⟨rfl, e41, (by decide : 0 + 0 ≤ _), (by decide : 0 + 0 ≤ _)⟩)
  dsimp only [Pt.U, Pt.locs, Pt.cells, Pt.slots] at X44 l44 y44 z44 st44 hQ44
  subst l44 y44 z44
  obtain ⟨rfl, rfl, e44⟩ := hQ44
  try rw [List.append_nil] at X44
  have hin45 : ¬ ((4 : Int32) < 0 ∨ cl38.slots.size ≤ ((4 : Int32)).toNatClampNeg) := inb_of S38 ⟨by decide, by decide⟩
  have hat46 : cl38.slots[((4 : Int32)).toNatClampNeg]? = some (.int x4) := Has.at H38 hin45 rfl
  obtain ⟨_, _, ⟨T47, L47, k47, n47⟩, -, X47, ⟨Lc47, hQ47, l47, y47, z47⟩, st47⟩ := callSN X44 hx (y := (⟨"com/example/tidemine/tidemine/TextFormat", "isSeparator", "(B)Z"⟩ : MethodName)) hown (Cond.methodLinkNest_wide hZ (hw _ (List.mem_of_getElem? (i := 32) rfl))) (mvT hZ (hw _ (List.mem_of_getElem? (i := 33) rfl))) (mvT hZ (hw _ (List.mem_of_getElem? (i := 34) rfl))) (mvT hZ (hw _ (List.mem_of_getElem? (i := 35) rfl))) (by decide) (backOf (W := 0) (rm6 l Z a0 hw [] x4 h36 ) hZ (hw _ (List.mem_of_getElem? (i := 35) rfl)) (hw _ (List.mem_of_getElem? (i := 34) rfl)) (by decide) (by decide)) (g := (mkF m 55 #[vR a1, vR a2, vI 2, vI 7, vI 4, vI 4] [iI x4])) rfl (by rw [hml]; rfl) (argsL := [(.int x4)]) (rest := []) (lenOf pd_0 rfl) rfl (by show 2 * 0 + _ ≤ _; exact Nat.le_of_eq rfl) (hb hby d5_55) (fun _ _ => ⟨rfl, e44, (by decide : 0 + 0 ≤ _), (by decide : 0 + 0 ≤ _)⟩)
  dsimp only [Pt.U, Pt.locs, Pt.cells, Pt.slots] at X47 l47 y47 z47 st47 hQ47
  subst l47 y47 z47
  obtain ⟨rfl, rfl, e47⟩ := hQ47
  try rw [List.append_nil] at X47
  have hin48 : ¬ ((5 : Int32) < 0 ∨ cl38.slots.size ≤ ((5 : Int32)).toNatClampNeg) := inb_of S38 ⟨by decide, by decide⟩
  have hat49 : cl38.slots[((5 : Int32)).toNatClampNeg]? = some (.int x5) := Has.at H38 hin48 rfl
  obtain ⟨_, _, ⟨T50, L50, k50, n50⟩, -, X50, ⟨Lc50, hQ50, l50, y50, z50⟩, st50⟩ := callSN X47 hx (y := (⟨"com/example/tidemine/tidemine/TextFormat", "isSeparator", "(B)Z"⟩ : MethodName)) hown (Cond.methodLinkNest_wide hZ (hw _ (List.mem_of_getElem? (i := 32) rfl))) (mvT hZ (hw _ (List.mem_of_getElem? (i := 33) rfl))) (mvT hZ (hw _ (List.mem_of_getElem? (i := 34) rfl))) (mvT hZ (hw _ (List.mem_of_getElem? (i := 35) rfl))) (by decide) (backOf (W := 0) (rm6 l Z a0 hw [] x5 h36 ) hZ (hw _ (List.mem_of_getElem? (i := 35) rfl)) (hw _ (List.mem_of_getElem? (i := 34) rfl)) (by decide) (by decide)) (g := (mkF m 55 #[vR a1, vR a2, vI 2, vI 7, vI 5, vI 4] [iI x5])) rfl (by rw [hml]; rfl) (argsL := [(.int x5)]) (rest := []) (lenOf pd_0 rfl) rfl (by show 2 * 0 + _ ≤ _; exact Nat.le_of_eq rfl) (hb hby d5_55) (fun _ _ => ⟨rfl, e47, (by decide : 0 + 0 ≤ _), (by decide : 0 + 0 ≤ _)⟩)
  dsimp only [Pt.U, Pt.locs, Pt.cells, Pt.slots] at X50 l50 y50 z50 st50 hQ50
  subst l50 y50 z50
  obtain ⟨rfl, rfl, e50⟩ := hQ50
  try rw [List.append_nil] at X50
  have hin51 : ¬ ((6 : Int32) < 0 ∨ cl38.slots.size ≤ ((6 : Int32)).toNatClampNeg) := inb_of S38 ⟨by decide, by decide⟩
  have hat52 : cl38.slots[((6 : Int32)).toNatClampNeg]? = some (.int x6) := Has.at H38 hin51 rfl
  obtain ⟨_, _, ⟨T53, L53, k53, n53⟩, -, X53, ⟨Lc53, hQ53, l53, y53, z53⟩, st53⟩ := callSN X50 hx (y := (⟨"com/example/tidemine/tidemine/TextFormat", "isSeparator", "(B)Z"⟩ : MethodName)) hown (Cond.methodLinkNest_wide hZ (hw _ (List.mem_of_getElem? (i := 32) rfl))) (mvT hZ (hw _ (List.mem_of_getElem? (i := 33) rfl))) (mvT hZ (hw _ (List.mem_of_getElem? (i := 34) rfl))) (mvT hZ (hw _ (List.mem_of_getElem? (i := 35) rfl))) (by decide) (backOf (W := 0) (rm6 l Z a0 hw [] x6 h36 ) hZ (hw _ (List.mem_of_getElem? (i := 35) rfl)) (hw _ (List.mem_of_getElem? (i := 34) rfl)) (by decide) (by decide)) (g := (mkF m 55 #[vR a1, vR a2, vI 2, vI 7, vI 6, vI 4] [iI x6])) rfl (by rw [hml]; rfl) (argsL := [(.int x6)]) (rest := []) (lenOf pd_0 rfl) rfl (by show 2 * 0 + _ ≤ _; exact Nat.le_of_eq rfl) (hb hby d5_55) (fun _ _ => ⟨rfl, e50, (by decide : 0 + 0 ≤ _), (by decide : 0 + 0 ≤ _)⟩)
  dsimp only [Pt.U, Pt.locs, Pt.cells, Pt.slots] at X53 l53 y53 z53 st53 hQ53
  subst l53 y53 z53
  obtain ⟨rfl, rfl, e53⟩ := hQ53
  try rw [List.append_nil] at X53
  obtain ⟨T54, X54, e54, st54⟩ := getF X53 hx hZ hown (host := "") (Or.inl (hw _ (List.mem_of_getElem? (i := 30) rfl))) Via.refl e53 Fw36 (g := (mkF m 75 #[vR a1, vR a2, vI 2, vI 7, vI 7, vI 4] [iR a1])) rfl rfl (hb hby d5_75)
  have fk55 := (((fk17.other W24 (Or.inl ne_a1_s1)).other W32 (Or.inl ne_a1_s2)).other W36 (Or.inr (slot_ne (Or.inl (hw _ (List.mem_of_getElem? (i := 20) rfl))) (Or.inl (hw _ (List.mem_of_getElem? (i := 31) rfl))) (by decide) (t := (.array .int)) (t' := .int) (by decide) (by decide))))
  obtain ⟨T56, X56, e56, st56⟩ := getF X54 hx hZ hown (host := "") (Or.inl (hw _ (List.mem_of_getElem? (i := 19) rfl))) Via.refl e54 fk55 (g := (mkF m 79 #[vR a1, vR a2, vI 2, vI 7, vI 7, vI 4] [iR a1, iI 1])) rfl rfl (hb hby d5_79)
  have fk57 := ((V24.other W32 ne_s1_s2).other W36 (Ne.symm ne_a1_s1))
  obtain ⟨cl58, Ar58, q58, S58, M58, H58, G58⟩ := id fk57
  obtain ⟨T59, X59, e59, st59⟩ := getF X56 hx hZ hown (host := "") (Or.inl (hw _ (List.mem_of_getElem? (i := 19) rfl))) Via.refl e56 fk55 (g := (mkF m 121 #[vR a1, vR a2, vI 2, vI 7, vI 7, vI 4] [iR a1])) rfl rfl (hb hby d5_121)
  obtain ⟨T60, X60, e60, st60⟩ := getF X59 hx hZ hown (host := "") (Or.inl (hw _ (List.mem_of_getElem? (i := 30) rfl))) Via.refl e59 Fw36 (g := (mkF m 125 #[vR a1, vR a2, vI 2, vI 7, vI 7, vI 4] [iR a1, iR s1])) rfl rfl (hb hby d5_125)
  have hin61 : ¬ ((1 : Int32) < 0 ∨ cl58.slots.size ≤ ((1 : Int32)).toNatClampNeg) := inb_of S58 ⟨by decide, by decide⟩
  obtain ⟨T62, h62, X62, e62, W62, st62⟩ := stI X60 hx hZ e60 Ar58 (j := (1 : Int32)) hin61 (g := (mkF m 130 #[vR a1, vR a2, vI 2, vI 7, vI 7, vI 4] [iI 4, iI 1, iR s1])) rfl rfl (hb hby d5_130)
  have V62 : Arv Z h62 s1 k1 .int (16 : Int32) [(.int (2 : Int32)), (.int (4 : Int32)), (.int (0 : Int32)), (.int (0 : Int32)), (.int (0 : Int32)), (.int (0 : Int32)), (.int (0 : Int32)), (.int (0 : Int32)), (.int (0 : Int32)), (.int (0 : Int32)), (.int (0 : Int32)), (.int (0 : Int32)), (.int (0 : Int32)), (.int (0 : Int32)), (.int (0 : Int32)), (.int (0 : Int32))] (.int (0 : Int32)) := Arv.set Ar58 q58 S58 M58 H58 G58 rfl W62 1 rfl (Nat.le_of_ble_eq_true rfl)
  have K62 : Keep h0 h62 [a1, s1, s2] := K36.wr W62 (Or.inl (List.mem_of_getElem? (i := 1) rfl))
  have N62 := Fr.snoc X62 N36 g_s1
  have fk63 := (((fk25.other W32 (Or.inl ne_a1_s2)).other W36 (Or.inr (slot_ne (Or.inl (hw _ (List.mem_of_getElem? (i := 22) rfl))) (Or.inl (hw _ (List.mem_of_getElem? (i := 31) rfl))) (by decide) (t := (.array .int)) (t' := .int) (by decide) (by decide)))).other W62 (Or.inl ne_a1_s1))
  obtain ⟨T64, X64, e64, st64⟩ := getF X62 hx hZ hown (host := "") (Or.inl (hw _ (List.mem_of_getElem? (i := 21) rfl))) Via.refl e62 fk63 (g := (mkF m 132 #[vR a1, vR a2, vI 2, vI 7, vI 7, vI 4] [iR a1])) rfl rfl (hb hby d5_132)
  have fk65 := (Fw36.other W62 (Or.inl ne_a1_s1))
  obtain ⟨T66, X66, e66, st66⟩ := getF X64 hx hZ hown (host := "") (Or.inl (hw _ (List.mem_of_getElem? (i := 30) rfl))) Via.refl e64 fk65 (g := (mkF m 136 #[vR a1, vR a2, vI 2, vI 7, vI 7, vI 4] [iR a1, iR s2])) rfl rfl (hb hby d5_136)
  have fk67 := ((V32.other W36 (Ne.symm ne_a1_s2)).other W62 (Ne.symm ne_s1_s2))
  obtain ⟨cl68, Ar68, q68, S68, M68, H68, G68⟩ := id fk67
  have hin69 : ¬ ((1 : Int32) < 0 ∨ cl68.slots.size ≤ ((1 : Int32)).toNatClampNeg) := inb_of S68 ⟨by decide, by decide⟩
  obtain ⟨T70, h70, X70, e70, W70, st70⟩ := stI X66 hx hZ e66 Ar68 (j := (1 : Int32)) hin69 (g := (mkF m 141 #[vR a1, vR a2, vI 2, vI 7, vI 7, vI 4] [iI 7, iI 1, iR s2])) rfl rfl (hb hby d5_141)
  have V70 : Arv Z h70 s2 k2 .int (16 : Int32) [(.int (3 : Int32)), (.int (7 : Int32)), (.int (0 : Int32)), (.int (0 : Int32)), (.int (0 : Int32)), (.int (0 : Int32)), (.int (0 : Int32)), (.int (0 : Int32)), (.int (0 : Int32)), (.int (0 : Int32)), (.int (0 : Int32)), (.int (0 : Int32)), (.int (0 : Int32)), (.int (0 : Int32)), (.int (0 : Int32)), (.int (0 : Int32))] (.int (0 : Int32)) := Arv.set Ar68 q68 S68 M68 H68 G68 rfl W70 1 rfl (Nat.le_of_ble_eq_true rfl)
  have K70 : Keep h0 h70 [a1, s1, s2] := K62.wr W70 (Or.inl (List.mem_of_getElem? (i := 2) rfl))
  have N70 := Fr.snoc X70 N62 g_s2
  have fk71 := (fk65.other W70 (Or.inl ne_a1_s2))
  obtain ⟨T72, X72, e72, st72⟩ := getF X70 hx hZ hown (host := "") (Or.inl (hw _ (List.mem_of_getElem? (i := 30) rfl))) Via.refl e70 fk71 (g := (mkF m 144 #[vR a1, vR a2, vI 2, vI 7, vI 7, vI 4] [iR a1, iR a1])) rfl rfl (hb hby d5_144)
  have fk73 := (((fk35.wr W36).wr W62).wr W70)
  obtain ⟨T74, h74, X74, e74, W74, st74⟩ := putF X72 hx hZ hown (host := "") (Or.inl (hw _ (List.mem_of_getElem? (i := 30) rfl))) Via.refl e72 fk71 fk73 (Or.inl (hw _ (List.mem_of_getElem? (i := 31) rfl))) (hw _ (List.mem_of_getElem? (i := 10) rfl)) (ty := .int) (by decide) rfl rfl (g := (mkF m 149 #[vR a1, vR a2, vI 2, vI 7, vI 7, vI 4] [iI 2, iR a1])) rfl rfl (hb hby d5_149)
  have Fw74 := fk71.same W74
  have K74 : Keep h0 h74 [a1, s1, s2] := K70.wr W74 (Or.inl (List.mem_of_getElem? (i := 0) rfl))
  have N74 := Fr.snoc X74 N70 g_a1
  obtain ⟨fs, hr, hrun, hended, hW, hsame⟩ := X74.leave (v := none) (fun _ => rfl)
  have fk75 := (fk73.wr W74)
  have fk76 := (((((((Fw1.other W4 (Or.inr (slot_ne (Or.inl (hw _ (List.mem_of_getElem? (i := 29) rfl))) (Or.inl (hw _ (List.mem_of_getElem? (i := 31) rfl))) (by decide) (t := (.array .byte)) (t' := .int) (by decide) (by decide)))).other W24 (Or.inl ne_a1_s1)).other W32 (Or.inl ne_a1_s2)).other W36 (Or.inr (slot_ne (Or.inl (hw _ (List.mem_of_getElem? (i := 29) rfl))) (Or.inl (hw _ (List.mem_of_getElem? (i := 31) rfl))) (by decide) (t := (.array .byte)) (t' := .int) (by decide) (by decide)))).other W62 (Or.inl ne_a1_s1)).other W70 (Or.inl ne_a1_s2)).other W74 (Or.inr (slot_ne (Or.inl (hw _ (List.mem_of_getElem? (i := 29) rfl))) (Or.inl (hw _ (List.mem_of_getElem? (i := 31) rfl))) (by decide) (t := (.array .byte)) (t' := .int) (by decide) (by decide))))
  have fk77 := (((fk55.other W62 (Or.inl ne_a1_s1)).other W70 (Or.inl ne_a1_s2)).other W74 (Or.inr (slot_ne (Or.inl (hw _ (List.mem_of_getElem? (i := 20) rfl))) (Or.inl (hw _ (List.mem_of_getElem? (i := 31) rfl))) (by decide) (t := (.array .int)) (t' := .int) (by decide) (by decide))))
  have fk78 := ((fk63.other W70 (Or.inl ne_a1_s2)).other W74 (Or.inr (slot_ne (Or.inl (hw _ (List.mem_of_getElem? (i := 22) rfl))) (Or.inl (hw _ (List.mem_of_getElem? (i := 31) rfl))) (by decide) (t := (.array .int)) (t' := .int) (by decide) (by decide))))
  have fk79 := ((V62.other W70 ne_s1_s2).other W74 (Ne.symm ne_a1_s1))
  have fk80 := (V70.other W74 (Ne.symm ne_a1_s2))
  refine ⟨_, _, pre0 _ ?_, hrun, hended, _, _, rfl, ?_, ⟨_, rfl⟩, hW, hsame.mono (by decide) (by decide)⟩
  · show Steps _ _ _ (s₁.setTop (mkF m 0 #[vR a1, vR a2, vI 2, vI 7, .unset, .unset] [])) _
    refine XS.aloadN X0.here hx rfl (hb hby d5_0) rfl rfl ?_
    show Steps _ _ _ (s₁.setTop (mkF m 1 #[vR a1, vR a2, vI 2, vI 7, .unset, .unset] [iR a1])) _
    refine XS.aloadN X0.here hx rfl (hb hby d5_1) rfl rfl ?_
    show Steps _ _ _ (s₁.setTop (mkF m 2 #[vR a1, vR a2, vI 2, vI 7, .unset, .unset] [iR a2, iR a1])) _
    refine st1 _ ?_
    show Steps _ _ _ (T1.setTop (mkF m 5 #[vR a1, vR a2, vI 2, vI 7, .unset, .unset] [])) _
    refine XS.aloadN X1.here hx rfl (hb hby d5_5) rfl rfl ?_
    show Steps _ _ _ (T1.setTop (mkF m 6 #[vR a1, vR a2, vI 2, vI 7, .unset, .unset] [iR a1])) _
    refine XS.iconst X1.here hx rfl (hb hby d5_6) ?_
    show Steps _ _ _ (T1.setTop (mkF m 7 #[vR a1, vR a2, vI 2, vI 7, .unset, .unset] [iI 0, iR a1])) _
    refine st4 _ ?_
    show Steps _ _ _ (T4.setTop (mkF m 10 #[vR a1, vR a2, vI 2, vI 7, .unset, .unset] [])) _
    refine XS.iloadN X4.here hx rfl (hb hby d5_10) rfl ?_
    show Steps _ _ _ (T4.setTop (mkF m 11 #[vR a1, vR a2, vI 2, vI 7, .unset, .unset] [iI 2])) _
    refine XS.istore X4.here hx rfl (hb hby d5_11) rfl (l' := #[vR a1, vR a2, vI 2, vI 7, vI 2, .unset]) rfl ?_
    show Steps _ _ _ (T4.setTop (mkF m 13 #[vR a1, vR a2, vI 2, vI 7, vI 2, .unset] [])) _
    refine XS.iload X4.here hx rfl (hb hby d5_13) rfl ?_
    show Steps _ _ _ (T4.setTop (mkF m 15 #[vR a1, vR a2, vI 2, vI 7, vI 2, .unset] [iI 2])) _
    refine XS.iloadN X4.here hx rfl (hb hby d5_15) rfl ?_
    show Steps _ _ _ (T4.setTop (mkF m 16 #[vR a1, vR a2, vI 2, vI 7, vI 2, .unset] [iI 7, iI 2])) _
    refine XS.icmpNo X4.here hx rfl (hb hby d5_16) rfl (tlt (by decide : (2 : Int32) < (7 : Int32))).2.1 ?_
    show Steps _ _ _ (T4.setTop (mkF m 19 #[vR a1, vR a2, vI 2, vI 7, vI 2, .unset] [])) _
    refine XS.iload X4.here hx rfl (hb hby d5_19) rfl ?_
    show Steps _ _ _ (T4.setTop (mkF m 21 #[vR a1, vR a2, vI 2, vI 7, vI 2, .unset] [iI 2])) _
    refine XS.iloadN X4.here hx rfl (hb hby d5_21) rfl ?_
    show Steps _ _ _ (T4.setTop (mkF m 22 #[vR a1, vR a2, vI 2, vI 7, vI 2, .unset] [iI 7, iI 2])) _
    refine XS.icmpNo X4.here hx rfl (hb hby d5_22) rfl (tlt (by decide : (2 : Int32) < (7 : Int32))).2.1 ?_
    show Steps _ _ _ (T4.setTop (mkF m 25 #[vR a1, vR a2, vI 2, vI 7, vI 2, .unset] [])) _
    refine XS.aloadN X4.here hx rfl (hb hby d5_25) rfl rfl ?_
    show Steps _ _ _ (T4.setTop (mkF m 26 #[vR a1, vR a2, vI 2, vI 7, vI 2, .unset] [iR a2])) _
    refine XS.iload X4.here hx rfl (hb hby d5_26) rfl ?_
    show Steps _ _ _ (T4.setTop (mkF m 28 #[vR a1, vR a2, vI 2, vI 7, vI 2, .unset] [iI 2, iR a2])) _
    refine X4.baloadBytes hx (j := (2 : Int32)) (v := (.int x2)) (by rw [e4]; exact Ar6.1) (State.isArrayOf_alike hZ.alike Ar6.2.1) Ar6.2.2 hin7 hat8 (g := (mkF m 28 #[vR a1, vR a2, vI 2, vI 7, vI 2, .unset] [iI 2, iR a2])) rfl rfl (hb hby d5_28) _ ?_
    show Steps _ _ _ (T4.setTop (mkF m 29 #[vR a1, vR a2, vI 2, vI 7, vI 2, .unset] [iI x2])) _
    refine st9.trans ?_
    show Steps _ _ _ (T9.setTop (mkF m 32 #[vR a1, vR a2, vI 2, vI 7, vI 2, .unset] [iI (own_sep x2)])) _
    refine XS.ifYes X9.here hx rfl (pc0 := 32) (pc' := 41) rfl (hb hby d5_32) rfl ((if0 _ _).trans (teq hx2).1) (by decide) (by decide) ?_
    show Steps _ _ _ (T9.setTop (mkF m 41 #[vR a1, vR a2, vI 2, vI 7, vI 2, .unset] [])) _
    refine XS.iload X9.here hx rfl (hb hby d5_41) rfl ?_
    show Steps _ _ _ (T9.setTop (mkF m 43 #[vR a1, vR a2, vI 2, vI 7, vI 2, .unset] [iI 2])) _
    refine XS.istore X9.here hx rfl (hb hby d5_43) rfl (l' := #[vR a1, vR a2, vI 2, vI 7, vI 2, vI 2]) rfl ?_
    show Steps _ _ _ (T9.setTop (mkF m 45 #[vR a1, vR a2, vI 2, vI 7, vI 2, vI 2] [])) _
    refine XS.iload X9.here hx rfl (hb hby d5_45) rfl ?_
    show Steps _ _ _ (T9.setTop (mkF m 47 #[vR a1, vR a2, vI 2, vI 7, vI 2, vI 2] [iI 2])) _
    refine XS.iloadN X9.here hx rfl (hb hby d5_47) rfl ?_
    show Steps _ _ _ (T9.setTop (mkF m 48 #[vR a1, vR a2, vI 2, vI 7, vI 2, vI 2] [iI 7, iI 2])) _
    refine XS.icmpNo X9.here hx rfl (hb hby d5_48) rfl (tlt (by decide : (2 : Int32) < (7 : Int32))).2.1 ?_
    show Steps _ _ _ (T9.setTop (mkF m 51 #[vR a1, vR a2, vI 2, vI 7, vI 2, vI 2] [])) _
    refine XS.aloadN X9.here hx rfl (hb hby d5_51) rfl rfl ?_
    show Steps _ _ _ (T9.setTop (mkF m 52 #[vR a1, vR a2, vI 2, vI 7, vI 2, vI 2] [iR a2])) _
    refine XS.iload X9.here hx rfl (hb hby d5_52) rfl ?_
    show Steps _ _ _ (T9.setTop (mkF m 54 #[vR a1, vR a2, vI 2, vI 7, vI 2, vI 2] [iI 2, iR a2])) _
    refine X9.baloadBytes hx (j := (2 : Int32)) (v := (.int x2)) (by rw [e9]; exact Ar6.1) (State.isArrayOf_alike hZ.alike Ar6.2.1) Ar6.2.2 hin10 hat11 (g := (mkF m 54 #[vR a1, vR a2, vI 2, vI 7, vI 2, vI 2] [iI 2, iR a2])) rfl rfl (hb hby d5_54) _ ?_
    show Steps _ _ _ (T9.setTop (mkF m 55 #[vR a1, vR a2, vI 2, vI 7, vI 2, vI 2] [iI x2])) _
    refine st12.trans ?_
    show Steps _ _ _ (T12.setTop (mkF m 58 #[vR a1, vR a2, vI 2, vI 7, vI 2, vI 2] [iI (own_sep x2)])) _
    refine XS.ifNo X12.here hx rfl (hb hby d5_58) rfl ((if0 _ _).trans (teq hx2).2) ?_
    show Steps _ _ _ (T12.setTop (mkF m 61 #[vR a1, vR a2, vI 2, vI 7, vI 2, vI 2] [])) _
    refine XS.iinc X12.here hx rfl (hb hby d5_61) rfl (l' := #[vR a1, vR a2, vI 2, vI 7, vI ((2 : Int32) + (1 : Int32)), vI 2]) rfl ?_
    rw [(by decide : ((2 : Int32) + (1 : Int32)) = (3 : Int32))]
    show Steps _ _ _ (T12.setTop (mkF m 64 #[vR a1, vR a2, vI 2, vI 7, vI 3, vI 2] [])) _
    refine XS.goto X12.here hx rfl (pc0 := 64) (pc' := 45) rfl (hb hby d5_64) (by decide) (by decide) ?_
    show Steps _ _ _ (T12.setTop (mkF m 45 #[vR a1, vR a2, vI 2, vI 7, vI 3, vI 2] [])) _
    refine XS.iload X12.here hx rfl (hb hby d5_45) rfl ?_
    show Steps _ _ _ (T12.setTop (mkF m 47 #[vR a1, vR a2, vI 2, vI 7, vI 3, vI 2] [iI 3])) _
    refine XS.iloadN X12.here hx rfl (hb hby d5_47) rfl ?_
    show Steps _ _ _ (T12.setTop (mkF m 48 #[vR a1, vR a2, vI 2, vI 7, vI 3, vI 2] [iI 7, iI 3])) _
    refine XS.icmpNo X12.here hx rfl (hb hby d5_48) rfl (tlt (by decide : (3 : Int32) < (7 : Int32))).2.1 ?_
    show Steps _ _ _ (T12.setTop (mkF m 51 #[vR a1, vR a2, vI 2, vI 7, vI 3, vI 2] [])) _
    refine XS.aloadN X12.here hx rfl (hb hby d5_51) rfl rfl ?_
    show Steps _ _ _ (T12.setTop (mkF m 52 #[vR a1, vR a2, vI 2, vI 7, vI 3, vI 2] [iR a2])) _
    refine XS.iload X12.here hx rfl (hb hby d5_52) rfl ?_
    show Steps _ _ _ (T12.setTop (mkF m 54 #[vR a1, vR a2, vI 2, vI 7, vI 3, vI 2] [iI 3, iR a2])) _
    refine X12.baloadBytes hx (j := (3 : Int32)) (v := (.int x3)) (by rw [e12]; exact Ar6.1) (State.isArrayOf_alike hZ.alike Ar6.2.1) Ar6.2.2 hin13 hat14 (g := (mkF m 54 #[vR a1, vR a2, vI 2, vI 7, vI 3, vI 2] [iI 3, iR a2])) rfl rfl (hb hby d5_54) _ ?_
    show Steps _ _ _ (T12.setTop (mkF m 55 #[vR a1, vR a2, vI 2, vI 7, vI 3, vI 2] [iI x3])) _
    refine st15.trans ?_
    show Steps _ _ _ (T15.setTop (mkF m 58 #[vR a1, vR a2, vI 2, vI 7, vI 3, vI 2] [iI (own_sep x3)])) _
    refine XS.ifYes X15.here hx rfl (pc0 := 58) (pc' := 67) rfl (hb hby d5_58) rfl ((if0 _ _).trans (feq hx3).2) (by decide) (by decide) ?_
    show Steps _ _ _ (T15.setTop (mkF m 67 #[vR a1, vR a2, vI 2, vI 7, vI 3, vI 2] [])) _
    refine XS.iload X15.here hx rfl (hb hby d5_67) rfl ?_
    show Steps _ _ _ (T15.setTop (mkF m 69 #[vR a1, vR a2, vI 2, vI 7, vI 3, vI 2] [iI 3])) _
    refine XS.iload X15.here hx rfl (hb hby d5_69) rfl ?_
    show Steps _ _ _ (T15.setTop (mkF m 71 #[vR a1, vR a2, vI 2, vI 7, vI 3, vI 2] [iI 2, iI 3])) _
    refine XS.icmpNo X15.here hx rfl (hb hby d5_71) rfl (tlt (by decide : (2 : Int32) < (3 : Int32))).2.2.2 ?_
    show Steps _ _ _ (T15.setTop (mkF m 74 #[vR a1, vR a2, vI 2, vI 7, vI 3, vI 2] [])) _
    refine XS.aloadN X15.here hx rfl (hb hby d5_74) rfl rfl ?_
    show Steps _ _ _ (T15.setTop (mkF m 75 #[vR a1, vR a2, vI 2, vI 7, vI 3, vI 2] [iR a1])) _
    refine st16 _ ?_
    show Steps _ _ _ (T16.setTop (mkF m 78 #[vR a1, vR a2, vI 2, vI 7, vI 3, vI 2] [iI 0])) _
    refine XS.aloadN X16.here hx rfl (hb hby d5_78) rfl rfl ?_
    show Steps _ _ _ (T16.setTop (mkF m 79 #[vR a1, vR a2, vI 2, vI 7, vI 3, vI 2] [iR a1, iI 0])) _
    refine st18 _ ?_
    show Steps _ _ _ (T18.setTop (mkF m 82 #[vR a1, vR a2, vI 2, vI 7, vI 3, vI 2] [iR s1, iI 0])) _
    refine X18.arraylength hx (by rw [e18]; exact Ar20.1) (State.isArrayOf_alike hZ.alike Ar20.2.1) (g := (mkF m 82 #[vR a1, vR a2, vI 2, vI 7, vI 3, vI 2] [iR s1, iI 0])) rfl rfl (hb hby d5_82) _ ?_
    rw [len_of S20 M20]
    show Steps _ _ _ (T18.setTop (mkF m 83 #[vR a1, vR a2, vI 2, vI 7, vI 3, vI 2] [iI 16, iI 0])) _
    refine XS.icmpYes X18.here hx rfl (pc0 := 83) (pc' := 120) rfl (hb hby d5_83) rfl (feq (by decide : ¬ ((0 : Int32) = (16 : Int32)))).2 (by decide) (by decide) ?_
    show Steps _ _ _ (T18.setTop (mkF m 120 #[vR a1, vR a2, vI 2, vI 7, vI 3, vI 2] [])) _
    refine XS.aloadN X18.here hx rfl (hb hby d5_120) rfl rfl ?_
    show Steps _ _ _ (T18.setTop (mkF m 121 #[vR a1, vR a2, vI 2, vI 7, vI 3, vI 2] [iR a1])) _
    refine st21 _ ?_
    show Steps _ _ _ (T21.setTop (mkF m 124 #[vR a1, vR a2, vI 2, vI 7, vI 3, vI 2] [iR s1])) _
    refine XS.aloadN X21.here hx rfl (hb hby d5_124) rfl rfl ?_
    show Steps _ _ _ (T21.setTop (mkF m 125 #[vR a1, vR a2, vI 2, vI 7, vI 3, vI 2] [iR a1, iR s1])) _
    refine st22 _ ?_
    show Steps _ _ _ (T22.setTop (mkF m 128 #[vR a1, vR a2, vI 2, vI 7, vI 3, vI 2] [iI 0, iR s1])) _
    refine XS.iload X22.here hx rfl (hb hby d5_128) rfl ?_
    show Steps _ _ _ (T22.setTop (mkF m 130 #[vR a1, vR a2, vI 2, vI 7, vI 3, vI 2] [iI 2, iI 0, iR s1])) _
    refine st24 _ ?_
    show Steps _ _ _ (T24.setTop (mkF m 131 #[vR a1, vR a2, vI 2, vI 7, vI 3, vI 2] [])) _
    refine XS.aloadN X24.here hx rfl (hb hby d5_131) rfl rfl ?_
    show Steps _ _ _ (T24.setTop (mkF m 132 #[vR a1, vR a2, vI 2, vI 7, vI 3, vI 2] [iR a1])) _
    refine st26 _ ?_
    show Steps _ _ _ (T26.setTop (mkF m 135 #[vR a1, vR a2, vI 2, vI 7, vI 3, vI 2] [iR s2])) _
    refine XS.aloadN X26.here hx rfl (hb hby d5_135) rfl rfl ?_
    show Steps _ _ _ (T26.setTop (mkF m 136 #[vR a1, vR a2, vI 2, vI 7, vI 3, vI 2] [iR a1, iR s2])) _
    refine st28 _ ?_
    show Steps _ _ _ (T28.setTop (mkF m 139 #[vR a1, vR a2, vI 2, vI 7, vI 3, vI 2] [iI 0, iR s2])) _
    refine XS.iload X28.here hx rfl (hb hby d5_139) rfl ?_
    show Steps _ _ _ (T28.setTop (mkF m 141 #[vR a1, vR a2, vI 2, vI 7, vI 3, vI 2] [iI 3, iI 0, iR s2])) _
    refine st32 _ ?_
    show Steps _ _ _ (T32.setTop (mkF m 142 #[vR a1, vR a2, vI 2, vI 7, vI 3, vI 2] [])) _
    refine XS.aloadN X32.here hx rfl (hb hby d5_142) rfl rfl ?_
    show Steps _ _ _ (T32.setTop (mkF m 143 #[vR a1, vR a2, vI 2, vI 7, vI 3, vI 2] [iR a1])) _
    refine XS.dup X32.here hx rfl (hb hby d5_143) rfl rfl ?_
    show Steps _ _ _ (T32.setTop (mkF m 144 #[vR a1, vR a2, vI 2, vI 7, vI 3, vI 2] [iR a1, iR a1])) _
    refine st34 _ ?_
    show Steps _ _ _ (T34.setTop (mkF m 147 #[vR a1, vR a2, vI 2, vI 7, vI 3, vI 2] [iI 0, iR a1])) _
    refine XS.iconst X34.here hx rfl (hb hby d5_147) ?_
    show Steps _ _ _ (T34.setTop (mkF m 148 #[vR a1, vR a2, vI 2, vI 7, vI 3, vI 2] [iI 1, iI 0, iR a1])) _
    refine XS.iadd X34.here hx rfl (hb hby d5_148) rfl ?_
    rw [(by decide : ((0 : Int32) + (1 : Int32)) = (1 : Int32))]
    show Steps _ _ _ (T34.setTop (mkF m 149 #[vR a1, vR a2, vI 2, vI 7, vI 3, vI 2] [iI 1, iR a1])) _
    refine st36 _ ?_
    show Steps _ _ _ (T36.setTop (mkF m 152 #[vR a1, vR a2, vI 2, vI 7, vI 3, vI 2] [])) _
    refine XS.goto X36.here hx rfl (pc0 := 152) (pc' := 13) rfl (hb hby d5_152) (by decide) (by decide) ?_
    show Steps _ _ _ (T36.setTop (mkF m 13 #[vR a1, vR a2, vI 2, vI 7, vI 3, vI 2] [])) _
    refine XS.iload X36.here hx rfl (hb hby d5_13) rfl ?_
    show Steps _ _ _ (T36.setTop (mkF m 15 #[vR a1, vR a2, vI 2, vI 7, vI 3, vI 2] [iI 3])) _
    refine XS.iloadN X36.here hx rfl (hb hby d5_15) rfl ?_
    show Steps _ _ _ (T36.setTop (mkF m 16 #[vR a1, vR a2, vI 2, vI 7, vI 3, vI 2] [iI 7, iI 3])) _
    refine XS.icmpNo X36.here hx rfl (hb hby d5_16) rfl (tlt (by decide : (3 : Int32) < (7 : Int32))).2.1 ?_
    show Steps _ _ _ (T36.setTop (mkF m 19 #[vR a1, vR a2, vI 2, vI 7, vI 3, vI 2] [])) _
    refine XS.iload X36.here hx rfl (hb hby d5_19) rfl ?_
    show Steps _ _ _ (T36.setTop (mkF m 21 #[vR a1, vR a2, vI 2, vI 7, vI 3, vI 2] [iI 3])) _
    refine XS.iloadN X36.here hx rfl (hb hby d5_21) rfl ?_
    show Steps _ _ _ (T36.setTop (mkF m 22 #[vR a1, vR a2, vI 2, vI 7, vI 3, vI 2] [iI 7, iI 3])) _
    refine XS.icmpNo X36.here hx rfl (hb hby d5_22) rfl (tlt (by decide : (3 : Int32) < (7 : Int32))).2.1 ?_
    show Steps _ _ _ (T36.setTop (mkF m 25 #[vR a1, vR a2, vI 2, vI 7, vI 3, vI 2] [])) _
    refine XS.aloadN X36.here hx rfl (hb hby d5_25) rfl rfl ?_
    show Steps _ _ _ (T36.setTop (mkF m 26 #[vR a1, vR a2, vI 2, vI 7, vI 3, vI 2] [iR a2])) _
    refine XS.iload X36.here hx rfl (hb hby d5_26) rfl ?_
    show Steps _ _ _ (T36.setTop (mkF m 28 #[vR a1, vR a2, vI 2, vI 7, vI 3, vI 2] [iI 3, iR a2])) _
    refine X36.baloadBytes hx (j := (3 : Int32)) (v := (.int x3)) (by rw [e36]; exact Ar38.1) (State.isArrayOf_alike hZ.alike Ar38.2.1) Ar38.2.2 hin39 hat40 (g := (mkF m 28 #[vR a1, vR a2, vI 2, vI 7, vI 3, vI 2] [iI 3, iR a2])) rfl rfl (hb hby d5_28) _ ?_
    show Steps _ _ _ (T36.setTop (mkF m 29 #[vR a1, vR a2, vI 2, vI 7, vI 3, vI 2] [iI x3])) _
    refine st41.trans ?_
    show Steps _ _ _ (T41.setTop (mkF m 32 #[vR a1, vR a2, vI 2, vI 7, vI 3, vI 2] [iI (own_sep x3)])) _
    refine XS.ifNo X41.here hx rfl (hb hby d5_32) rfl ((if0 _ _).trans (feq hx3).1) ?_
    show Steps _ _ _ (T41.setTop (mkF m 35 #[vR a1, vR a2, vI 2, vI 7, vI 3, vI 2] [])) _
    refine XS.iinc X41.here hx rfl (hb hby d5_35) rfl (l' := #[vR a1, vR a2, vI 2, vI 7, vI ((3 : Int32) + (1 : Int32)), vI 2]) rfl ?_
    rw [(by decide : ((3 : Int32) + (1 : Int32)) = (4 : Int32))]
    show Steps _ _ _ (T41.setTop (mkF m 38 #[vR a1, vR a2, vI 2, vI 7, vI 4, vI 2] [])) _
    refine XS.goto X41.here hx rfl (pc0 := 38) (pc' := 19) rfl (hb hby d5_38) (by decide) (by decide) ?_
    show Steps _ _ _ (T41.setTop (mkF m 19 #[vR a1, vR a2, vI 2, vI 7, vI 4, vI 2] [])) _
    refine XS.iload X41.here hx rfl (hb hby d5_19) rfl ?_
    show Steps _ _ _ (T41.setTop (mkF m 21 #[vR a1, vR a2, vI 2, vI 7, vI 4, vI 2] [iI 4])) _
    refine XS.iloadN X41.here hx rfl (hb hby d5_21) rfl ?_
    show Steps _ _ _ (T41.setTop (mkF m 22 #[vR a1, vR a2, vI 2, vI 7, vI 4, vI 2] [iI 7, iI 4])) _
    refine XS.icmpNo X41.here hx rfl (hb hby d5_22) rfl (tlt (by decide : (4 : Int32) < (7 : Int32))).2.1 ?_
    show Steps _ _ _ (T41.setTop (mkF m 25 #[vR a1, vR a2, vI 2, vI 7, vI 4, vI 2] [])) _
    refine XS.aloadN X41.here hx rfl (hb hby d5_25) rfl rfl ?_
    show Steps _ _ _ (T41.setTop (mkF m 26 #[vR a1, vR a2, vI 2, vI 7, vI 4, vI 2] [iR a2])) _
    refine XS.iload X41.here hx rfl (hb hby d5_26) rfl ?_
    show Steps _ _ _ (T41.setTop (mkF m 28 #[vR a1, vR a2, vI 2, vI 7, vI 4, vI 2] [iI 4, iR a2])) _
    refine X41.baloadBytes hx (j := (4 : Int32)) (v := (.int x4)) (by rw [e41]; exact Ar38.1) (State.isArrayOf_alike hZ.alike Ar38.2.1) Ar38.2.2 hin42 hat43 (g := (mkF m 28 #[vR a1, vR a2, vI 2, vI 7, vI 4, vI 2] [iI 4, iR a2])) rfl rfl (hb hby d5_28) _ ?_
    show Steps _ _ _ (T41.setTop (mkF m 29 #[vR a1, vR a2, vI 2, vI 7, vI 4, vI 2] [iI x4])) _
    refine st44.trans ?_
    show Steps _ _ _ (T44.setTop (mkF m 32 #[vR a1, vR a2, vI 2, vI 7, vI 4, vI 2] [iI (own_sep x4)])) _
    refine XS.ifYes X44.here hx rfl (pc0 := 32) (pc' := 41) rfl (hb hby d5_32) rfl ((if0 _ _).trans (teq hx4).1) (by decide) (by decide) ?_
    show Steps _ _ _ (T44.setTop (mkF m 41 #[vR a1, vR a2, vI 2, vI 7, vI 4, vI 2] [])) _
    refine XS.iload X44.here hx rfl (hb hby d5_41) rfl ?_
    show Steps _ _ _ (T44.setTop (mkF m 43 #[vR a1, vR a2, vI 2, vI 7, vI 4, vI 2] [iI 4])) _
    refine XS.istore X44.here hx rfl (hb hby d5_43) rfl (l' := #[vR a1, vR a2, vI 2, vI 7, vI 4, vI 4]) rfl ?_
    show Steps _ _ _ (T44.setTop (mkF m 45 #[vR a1, vR a2, vI 2, vI 7, vI 4, vI 4] [])) _
    refine XS.iload X44.here hx rfl (hb hby d5_45) rfl ?_
    show Steps _ _ _ (T44.setTop (mkF m 47 #[vR a1, vR a2, vI 2, vI 7, vI 4, vI 4] [iI 4])) _
    refine XS.iloadN X44.here hx rfl (hb hby d5_47) rfl ?_
    show Steps _ _ _ (T44.setTop (mkF m 48 #[vR a1, vR a2, vI 2, vI 7, vI 4, vI 4] [iI 7, iI 4])) _
    refine XS.icmpNo X44.here hx rfl (hb hby d5_48) rfl (tlt (by decide : (4 : Int32) < (7 : Int32))).2.1 ?_
    show Steps _ _ _ (T44.setTop (mkF m 51 #[vR a1, vR a2, vI 2, vI 7, vI 4, vI 4] [])) _
    refine XS.aloadN X44.here hx rfl (hb hby d5_51) rfl rfl ?_
    show Steps _ _ _ (T44.setTop (mkF m 52 #[vR a1, vR a2, vI 2, vI 7, vI 4, vI 4] [iR a2])) _
    refine XS.iload X44.here hx rfl (hb hby d5_52) rfl ?_
    show Steps _ _ _ (T44.setTop (mkF m 54 #[vR a1, vR a2, vI 2, vI 7, vI 4, vI 4] [iI 4, iR a2])) _
    refine X44.baloadBytes hx (j := (4 : Int32)) (v := (.int x4)) (by rw [e44]; exact Ar38.1) (State.isArrayOf_alike hZ.alike Ar38.2.1) Ar38.2.2 hin45 hat46 (g := (mkF m 54 #[vR a1, vR a2, vI 2, vI 7, vI 4, vI 4] [iI 4, iR a2])) rfl rfl (hb hby d5_54) _ ?_
    show Steps _ _ _ (T44.setTop (mkF m 55 #[vR a1, vR a2, vI 2, vI 7, vI 4, vI 4] [iI x4])) _
    refine st47.trans ?_
    show Steps _ _ _ (T47.setTop (mkF m 58 #[vR a1, vR a2, vI 2, vI 7, vI 4, vI 4] [iI (own_sep x4)])) _
    refine XS.ifNo X47.here hx rfl (hb hby d5_58) rfl ((if0 _ _).trans (teq hx4).2) ?_
    show Steps _ _ _ (T47.setTop (mkF m 61 #[vR a1, vR a2, vI 2, vI 7, vI 4, vI 4] [])) _
    refine XS.iinc X47.here hx rfl (hb hby d5_61) rfl (l' := #[vR a1, vR a2, vI 2, vI 7, vI ((4 : Int32) + (1 : Int32)), vI 4]) rfl ?_
    rw [(by decide : ((4 : Int32) + (1 : Int32)) = (5 : Int32))]
    show Steps _ _ _ (T47.setTop (mkF m 64 #[vR a1, vR a2, vI 2, vI 7, vI 5, vI 4] [])) _
    refine XS.goto X47.here hx rfl (pc0 := 64) (pc' := 45) rfl (hb hby d5_64) (by decide) (by decide) ?_
    show Steps _ _ _ (T47.setTop (mkF m 45 #[vR a1, vR a2, vI 2, vI 7, vI 5, vI 4] [])) _
    refine XS.iload X47.here hx rfl (hb hby d5_45) rfl ?_
    show Steps _ _ _ (T47.setTop (mkF m 47 #[vR a1, vR a2, vI 2, vI 7, vI 5, vI 4] [iI 5])) _
    refine XS.iloadN X47.here hx rfl (hb hby d5_47) rfl ?_
    show Steps _ _ _ (T47.setTop (mkF m 48 #[vR a1, vR a2, vI 2, vI 7, vI 5, vI 4] [iI 7, iI 5])) _
    refine XS.icmpNo X47.here hx rfl (hb hby d5_48) rfl (tlt (by decide : (5 : Int32) < (7 : Int32))).2.1 ?_
    show Steps _ _ _ (T47.setTop (mkF m 51 #[vR a1, vR a2, vI 2, vI 7, vI 5, vI 4] [])) _
    refine XS.aloadN X47.here hx rfl (hb hby d5_51) rfl rfl ?_
    show Steps _ _ _ (T47.setTop (mkF m 52 #[vR a1, vR a2, vI 2, vI 7, vI 5, vI 4] [iR a2])) _
    refine XS.iload X47.here hx rfl (hb hby d5_52) rfl ?_
    show Steps _ _ _ (T47.setTop (mkF m 54 #[vR a1, vR a2, vI 2, vI 7, vI 5, vI 4] [iI 5, iR a2])) _
    refine X47.baloadBytes hx (j := (5 : Int32)) (v := (.int x5)) (by rw [e47]; exact Ar38.1) (State.isArrayOf_alike hZ.alike Ar38.2.1) Ar38.2.2 hin48 hat49 (g := (mkF m 54 #[vR a1, vR a2, vI 2, vI 7, vI 5, vI 4] [iI 5, iR a2])) rfl rfl (hb hby d5_54) _ ?_
    show Steps _ _ _ (T47.setTop (mkF m 55 #[vR a1, vR a2, vI 2, vI 7, vI 5, vI 4] [iI x5])) _
    refine st50.trans ?_
    show Steps _ _ _ (T50.setTop (mkF m 58 #[vR a1, vR a2, vI 2, vI 7, vI 5, vI 4] [iI (own_sep x5)])) _
    refine XS.ifNo X50.here hx rfl (hb hby d5_58) rfl ((if0 _ _).trans (teq hx5).2) ?_
    show Steps _ _ _ (T50.setTop (mkF m 61 #[vR a1, vR a2, vI 2, vI 7, vI 5, vI 4] [])) _
    refine XS.iinc X50.here hx rfl (hb hby d5_61) rfl (l' := #[vR a1, vR a2, vI 2, vI 7, vI ((5 : Int32) + (1 : Int32)), vI 4]) rfl ?_
    rw [(by decide : ((5 : Int32) + (1 : Int32)) = (6 : Int32))]
    show Steps _ _ _ (T50.setTop (mkF m 64 #[vR a1, vR a2, vI 2, vI 7, vI 6, vI 4] [])) _
    refine XS.goto X50.here hx rfl (pc0 := 64) (pc' := 45) rfl (hb hby d5_64) (by decide) (by decide) ?_
    show Steps _ _ _ (T50.setTop (mkF m 45 #[vR a1, vR a2, vI 2, vI 7, vI 6, vI 4] [])) _
    refine XS.iload X50.here hx rfl (hb hby d5_45) rfl ?_
    show Steps _ _ _ (T50.setTop (mkF m 47 #[vR a1, vR a2, vI 2, vI 7, vI 6, vI 4] [iI 6])) _
    refine XS.iloadN X50.here hx rfl (hb hby d5_47) rfl ?_
    show Steps _ _ _ (T50.setTop (mkF m 48 #[vR a1, vR a2, vI 2, vI 7, vI 6, vI 4] [iI 7, iI 6])) _
    refine XS.icmpNo X50.here hx rfl (hb hby d5_48) rfl (tlt (by decide : (6 : Int32) < (7 : Int32))).2.1 ?_
    show Steps _ _ _ (T50.setTop (mkF m 51 #[vR a1, vR a2, vI 2, vI 7, vI 6, vI 4] [])) _
    refine XS.aloadN X50.here hx rfl (hb hby d5_51) rfl rfl ?_
    show Steps _ _ _ (T50.setTop (mkF m 52 #[vR a1, vR a2, vI 2, vI 7, vI 6, vI 4] [iR a2])) _
    refine XS.iload X50.here hx rfl (hb hby d5_52) rfl ?_
    show Steps _ _ _ (T50.setTop (mkF m 54 #[vR a1, vR a2, vI 2, vI 7, vI 6, vI 4] [iI 6, iR a2])) _
    refine X50.baloadBytes hx (j := (6 : Int32)) (v := (.int x6)) (by rw [e50]; exact Ar38.1) (State.isArrayOf_alike hZ.alike Ar38.2.1) Ar38.2.2 hin51 hat52 (g := (mkF m 54 #[vR a1, vR a2, vI 2, vI 7, vI 6, vI 4] [iI 6, iR a2])) rfl rfl (hb hby d5_54) _ ?_
    show Steps _ _ _ (T50.setTop (mkF m 55 #[vR a1, vR a2, vI 2, vI 7, vI 6, vI 4] [iI x6])) _
    refine st53.trans ?_
    show Steps _ _ _ (T53.setTop (mkF m 58 #[vR a1, vR a2, vI 2, vI 7, vI 6, vI 4] [iI (own_sep x6)])) _
    refine XS.ifNo X53.here hx rfl (hb hby d5_58) rfl ((if0 _ _).trans (teq hx6).2) ?_
    show Steps _ _ _ (T53.setTop (mkF m 61 #[vR a1, vR a2, vI 2, vI 7, vI 6, vI 4] [])) _
    refine XS.iinc X53.here hx rfl (hb hby d5_61) rfl (l' := #[vR a1, vR a2, vI 2, vI 7, vI ((6 : Int32) + (1 : Int32)), vI 4]) rfl ?_
    rw [(by decide : ((6 : Int32) + (1 : Int32)) = (7 : Int32))]
    show Steps _ _ _ (T53.setTop (mkF m 64 #[vR a1, vR a2, vI 2, vI 7, vI 7, vI 4] [])) _
    refine XS.goto X53.here hx rfl (pc0 := 64) (pc' := 45) rfl (hb hby d5_64) (by decide) (by decide) ?_
    show Steps _ _ _ (T53.setTop (mkF m 45 #[vR a1, vR a2, vI 2, vI 7, vI 7, vI 4] [])) _
    refine XS.iload X53.here hx rfl (hb hby d5_45) rfl ?_
    show Steps _ _ _ (T53.setTop (mkF m 47 #[vR a1, vR a2, vI 2, vI 7, vI 7, vI 4] [iI 7])) _
    refine XS.iloadN X53.here hx rfl (hb hby d5_47) rfl ?_
    show Steps _ _ _ (T53.setTop (mkF m 48 #[vR a1, vR a2, vI 2, vI 7, vI 7, vI 4] [iI 7, iI 7])) _
    refine XS.icmpYes X53.here hx rfl (pc0 := 48) (pc' := 67) rfl (hb hby d5_48) rfl (flt (by decide : ¬ ((7 : Int32) < (7 : Int32)))).2.1 (by decide) (by decide) ?_
    show Steps _ _ _ (T53.setTop (mkF m 67 #[vR a1, vR a2, vI 2, vI 7, vI 7, vI 4] [])) _
    refine XS.iload X53.here hx rfl (hb hby d5_67) rfl ?_
    show Steps _ _ _ (T53.setTop (mkF m 69 #[vR a1, vR a2, vI 2, vI 7, vI 7, vI 4] [iI 7])) _
    refine XS.iload X53.here hx rfl (hb hby d5_69) rfl ?_
    show Steps _ _ _ (T53.setTop (mkF m 71 #[vR a1, vR a2, vI 2, vI 7, vI 7, vI 4] [iI 4, iI 7])) _
    refine XS.icmpNo X53.here hx rfl (hb hby d5_71) rfl (tlt (by decide : (4 : Int32) < (7 : Int32))).2.2.2 ?_
    show Steps _ _ _ (T53.setTop (mkF m 74 #[vR a1, vR a2, vI 2, vI 7, vI 7, vI 4] [])) _
    refine XS.aloadN X53.here hx rfl (hb hby d5_74) rfl rfl ?_
    show Steps _ _ _ (T53.setTop (mkF m 75 #[vR a1, vR a2, vI 2, vI 7, vI 7, vI 4] [iR a1])) _
    refine st54 _ ?_
    show Steps _ _ _ (T54.setTop (mkF m 78 #[vR a1, vR a2, vI 2, vI 7, vI 7, vI 4] [iI 1])) _
    refine XS.aloadN X54.here hx rfl (hb hby d5_78) rfl rfl ?_
    show Steps _ _ _ (T54.setTop (mkF m 79 #[vR a1, vR a2, vI 2, vI 7, vI 7, vI 4] [iR a1, iI 1])) _
    refine st56 _ ?_
    show Steps _ _ _ (T56.setTop (mkF m 82 #[vR a1, vR a2, vI 2, vI 7, vI 7, vI 4] [iR s1, iI 1])) _
    refine X56.arraylength hx (by rw [e56]; exact Ar58.1) (State.isArrayOf_alike hZ.alike Ar58.2.1) (g := (mkF m 82 #[vR a1, vR a2, vI 2, vI 7, vI 7, vI 4] [iR s1, iI 1])) rfl rfl (hb hby d5_82) _ ?_
    rw [len_of S58 M58]
    show Steps _ _ _ (T56.setTop (mkF m 83 #[vR a1, vR a2, vI 2, vI 7, vI 7, vI 4] [iI 16, iI 1])) _
    refine XS.icmpYes X56.here hx rfl (pc0 := 83) (pc' := 120) rfl (hb hby d5_83) rfl (feq (by decide : ¬ ((1 : Int32) = (16 : Int32)))).2 (by decide) (by decide) ?_
    show Steps _ _ _ (T56.setTop (mkF m 120 #[vR a1, vR a2, vI 2, vI 7, vI 7, vI 4] [])) _
    refine XS.aloadN X56.here hx rfl (hb hby d5_120) rfl rfl ?_
    show Steps _ _ _ (T56.setTop (mkF m 121 #[vR a1, vR a2, vI 2, vI 7, vI 7, vI 4] [iR a1])) _
    refine st59 _ ?_
    show Steps _ _ _ (T59.setTop (mkF m 124 #[vR a1, vR a2, vI 2, vI 7, vI 7, vI 4] [iR s1])) _
    refine XS.aloadN X59.here hx rfl (hb hby d5_124) rfl rfl ?_
    show Steps _ _ _ (T59.setTop (mkF m 125 #[vR a1, vR a2, vI 2, vI 7, vI 7, vI 4] [iR a1, iR s1])) _
    refine st60 _ ?_
    show Steps _ _ _ (T60.setTop (mkF m 128 #[vR a1, vR a2, vI 2, vI 7, vI 7, vI 4] [iI 1, iR s1])) _
    refine XS.iload X60.here hx rfl (hb hby d5_128) rfl ?_
    show Steps _ _ _ (T60.setTop (mkF m 130 #[vR a1, vR a2, vI 2, vI 7, vI 7, vI 4] [iI 4, iI 1, iR s1])) _
    refine st62 _ ?_
    show Steps _ _ _ (T62.setTop (mkF m 131 #[vR a1, vR a2, vI 2, vI 7, vI 7, vI 4] [])) _
    refine XS.aloadN X62.here hx rfl (hb hby d5_131) rfl rfl ?_
    show Steps _ _ _ (T62.setTop (mkF m 132 #[vR a1, vR a2, vI 2, vI 7, vI 7, vI 4] [iR a1])) _
    refine st64 _ ?_
    show Steps _ _ _ (T64.setTop (mkF m 135 #[vR a1, vR a2, vI 2, vI 7, vI 7, vI 4] [iR s2])) _
    refine XS.aloadN X64.here hx rfl (hb hby d5_135) rfl rfl ?_
    show Steps _ _ _ (T64.setTop (mkF m 136 #[vR a1, vR a2, vI 2, vI 7, vI 7, vI 4] [iR a1, iR s2])) _
    refine st66 _ ?_
    show Steps _ _ _ (T66.setTop (mkF m 139 #[vR a1, vR a2, vI 2, vI 7, vI 7, vI 4] [iI 1, iR s2])) _
    refine XS.iload X66.here hx rfl (hb hby d5_139) rfl ?_
    show Steps _ _ _ (T66.setTop (mkF m 141 #[vR a1, vR a2, vI 2, vI 7, vI 7, vI 4] [iI 7, iI 1, iR s2])) _
    refine st70 _ ?_
    show Steps _ _ _ (T70.setTop (mkF m 142 #[vR a1, vR a2, vI 2, vI 7, vI 7, vI 4] [])) _
    refine XS.aloadN X70.here hx rfl (hb hby d5_142) rfl rfl ?_
    show Steps _ _ _ (T70.setTop (mkF m 143 #[vR a1, vR a2, vI 2, vI 7, vI 7, vI 4] [iR a1])) _
    refine XS.dup X70.here hx rfl (hb hby d5_143) rfl rfl ?_
    show Steps _ _ _ (T70.setTop (mkF m 144 #[vR a1, vR a2, vI 2, vI 7, vI 7, vI 4] [iR a1, iR a1])) _
    refine st72 _ ?_
    show Steps _ _ _ (T72.setTop (mkF m 147 #[vR a1, vR a2, vI 2, vI 7, vI 7, vI 4] [iI 1, iR a1])) _
    refine XS.iconst X72.here hx rfl (hb hby d5_147) ?_
    show Steps _ _ _ (T72.setTop (mkF m 148 #[vR a1, vR a2, vI 2, vI 7, vI 7, vI 4] [iI 1, iI 1, iR a1])) _
    refine XS.iadd X72.here hx rfl (hb hby d5_148) rfl ?_
    rw [(by decide : ((1 : Int32) + (1 : Int32)) = (2 : Int32))]
    show Steps _ _ _ (T72.setTop (mkF m 149 #[vR a1, vR a2, vI 2, vI 7, vI 7, vI 4] [iI 2, iR a1])) _
    refine st74 _ ?_
    show Steps _ _ _ (T74.setTop (mkF m 152 #[vR a1, vR a2, vI 2, vI 7, vI 7, vI 4] [])) _
    refine XS.goto X74.here hx rfl (pc0 := 152) (pc' := 13) rfl (hb hby d5_152) (by decide) (by decide) ?_
    show Steps _ _ _ (T74.setTop (mkF m 13 #[vR a1, vR a2, vI 2, vI 7, vI 7, vI 4] [])) _
    refine XS.iload X74.here hx rfl (hb hby d5_13) rfl ?_
    show Steps _ _ _ (T74.setTop (mkF m 15 #[vR a1, vR a2, vI 2, vI 7, vI 7, vI 4] [iI 7])) _
    refine XS.iloadN X74.here hx rfl (hb hby d5_15) rfl ?_
    show Steps _ _ _ (T74.setTop (mkF m 16 #[vR a1, vR a2, vI 2, vI 7, vI 7, vI 4] [iI 7, iI 7])) _
    refine XS.icmpYes X74.here hx rfl (pc0 := 16) (pc' := 155) rfl (hb hby d5_16) rfl (flt (by decide : ¬ ((7 : Int32) < (7 : Int32)))).2.1 (by decide) (by decide) ?_
    show Steps _ _ _ (T74.setTop (mkF m 155 #[vR a1, vR a2, vI 2, vI 7, vI 7, vI 4] [])) _
    exact X74.returnOut hx Bd.returns (hb hby d5_155) hr
  · show Q5_2_7 Z a1 a2 s1 s2 k1 k2 kl x0 x1 x2 x3 x4 x5 x6 h0 n0 _ T74.heap _
    rw [e74]
    exact ⟨rfl, N74, K74, fk75, fk76, fk77, fk78, fk79, fk80⟩
def Q5 (Z : State) (a1 : Addr) (a2 : Addr) (p3 : Int32) (p4 : Int32) (s1 s2 : Addr) (k1 k2 kl : ClassId) (x0 : Int32) (x1 : Int32) (x2 : Int32) (x3 : Int32) (x4 : Int32) (x5 : Int32) (x6 : Int32) (h0 : Heap) (n0 : Nat) (v : Option Value) (h : Heap) (L : List Loc) : Prop := v = none ∧ Fr n0 L ∧ Keep h0 h [a1, s1, s2] ∧ Exa Z h a1 "com/example/tidemine/tidemine/TextFormat$Tokens" ∧ Fld Z h a1 "com/example/tidemine/tidemine/TextFormat$Tokens" "line" "[B" (.ref a2) ∧ Fld Z h a1 "com/example/tidemine/tidemine/TextFormat$Tokens" "starts" "[I" (.ref s1) ∧ Fld Z h a1 "com/example/tidemine/tidemine/TextFormat$Tokens" "ends" "[I" (.ref s2) ∧ Arv Z h s1 k1 .int (16 : Int32) [(.int p3), (.int (4 : Int32)), (.int (0 : Int32)), (.int (0 : Int32)), (.int (0 : Int32)), (.int (0 : Int32)), (.int (0 : Int32)), (.int (0 : Int32)), (.int (0 : Int32)), (.int (0 : Int32)), (.int (0 : Int32)), (.int (0 : Int32)), (.int (0 : Int32)), (.int (0 : Int32)), (.int (0 : Int32)), (.int (0 : Int32))] (.int (0 : Int32)) ∧ Arv Z h s2 k2 .int (16 : Int32) [(.int (3 : Int32)), (.int p4), (.int (0 : Int32)), (.int (0 : Int32)), (.int (0 : Int32)), (.int (0 : Int32)), (.int (0 : Int32)), (.int (0 : Int32)), (.int (0 : Int32)), (.int (0 : Int32)), (.int (0 : Int32)), (.int (0 : Int32)), (.int (0 : Int32)), (.int (0 : Int32)), (.int (0 : Int32)), (.int (0 : Int32))] (.int (0 : Int32))
set_option maxRecDepth 65536 in
set_option maxHeartbeats 40000000 in
theorem rm5 (l : Launch) (Z : State) (a0 : Array Value) (hw : ∀ d ∈ tables_1, d.before a0 Z = true) (ws : List Jvm.Cond) (a1 : Addr) (a2 : Addr) (p3 : Int32) (p4 : Int32) (s1 s2 : Addr) (k1 k2 kl : ClassId) (x0 : Int32) (x1 : Int32) (x2 : Int32) (x3 : Int32) (x4 : Int32) (x5 : Int32) (x6 : Int32) (h0 : Heap) (n0 : Nat) (Z0 : n0 ≤ h0.size) (E_a1 : Exa Z h0 a1 "com/example/tidemine/tidemine/TextFormat$Tokens") (g_a1 : n0 ≤ a1) (g_s1 : n0 ≤ s1) (g_s2 : n0 ≤ s2) (F_line : Fld Z h0 a1 "com/example/tidemine/tidemine/TextFormat$Tokens" "line" "[B" .null) (F_starts : Fld Z h0 a1 "com/example/tidemine/tidemine/TextFormat$Tokens" "starts" "[I" (.ref s1)) (F_ends : Fld Z h0 a1 "com/example/tidemine/tidemine/TextFormat$Tokens" "ends" "[I" (.ref s2)) (F_count : Fld Z h0 a1 "com/example/tidemine/tidemine/TextFormat$Tokens" "count" "I" (.int (0 : Int32))) (V_1 : Arv Z h0 s1 k1 .int (16 : Int32) [(.int (0 : Int32)), (.int (0 : Int32)), (.int (0 : Int32)), (.int (0 : Int32)), (.int (0 : Int32)), (.int (0 : Int32)), (.int (0 : Int32)), (.int (0 : Int32)), (.int (0 : Int32)), (.int (0 : Int32)), (.int (0 : Int32)), (.int (0 : Int32)), (.int (0 : Int32)), (.int (0 : Int32)), (.int (0 : Int32)), (.int (0 : Int32))] (.int (0 : Int32))) (V_2 : Arv Z h0 s2 k2 .int (16 : Int32) [(.int (0 : Int32)), (.int (0 : Int32)), (.int (0 : Int32)), (.int (0 : Int32)), (.int (0 : Int32)), (.int (0 : Int32)), (.int (0 : Int32)), (.int (0 : Int32)), (.int (0 : Int32)), (.int (0 : Int32)), (.int (0 : Int32)), (.int (0 : Int32)), (.int (0 : Int32)), (.int (0 : Int32)), (.int (0 : Int32)), (.int (0 : Int32))] (.int (0 : Int32))) (V_l : Arv Z h0 a2 kl .byte (7 : Int32) [(.int x0), (.int x1), (.int x2), (.int x3), (.int x4), (.int x5), (.int x6)] (.int (0 : Int32))) (ne_a1_a2 : a1 ≠ a2) (ne_a1_s1 : a1 ≠ s1) (ne_a1_s2 : a1 ≠ s2) (ne_a2_s1 : a2 ≠ s1) (ne_a2_s2 : a2 ≠ s2) (ne_s1_s2 : s1 ≠ s2) (hx0 : (own_sep x0) = (0 : Int32)) (hx1 : (own_sep x1) = (0 : Int32)) (hx2 : (own_sep x2) = (0 : Int32)) (hx3 : ¬ (own_sep x3) = (0 : Int32)) (hx4 : (own_sep x4) = (0 : Int32)) (hx5 : (own_sep x5) = (0 : Int32)) (hx6 : (own_sep x6) = (0 : Int32)) (qf : p3 = 0 ∨ p3 = 1 ∨ p3 = 2) (qt : p4 = 5 ∨ p4 = 6 ∨ p4 = 7) :
    MetFree l (⟨"com/example/tidemine/tidemine/TextFormat$Tokens", "split", "([BII)V"⟩ : MethodName) (head1 (Jvm.Cond.code (⟨"com/example/tidemine/tidemine/TextFormat$Tokens", "split", "([BII)V"⟩ : MethodName) prog_41_method_2_code 6 none :: ws) ({ frames := 1, cells := 0, slots := 0, locals := 12 } : Room)) (fun a U => a = #[(.ref a1), (.ref a2), (.int p3), (.int p4)] ∧ Z.Warmed39 U.vm ∧ U.heap = h0) (fun _ _ _ _ _ => True) (fun _ U o U' => ∃ v L, o = .returned v ∧ Q5 Z a1 a2 p3 p4 s1 s2 k1 k2 kl x0 x1 x2 x3 x4 x5 x6 h0 n0 v U'.heap L ∧ FrameEnd U o U' L ({ frames := 1, cells := 0, slots := 0, locals := 12 } : Room).cells ({ frames := 1, cells := 0, slots := 0, locals := 12 } : Room).slots) := by
  rcases qf with rfl | rfl | rfl <;> rcases qt with rfl | rfl | rfl
  · exact rm5_0_5 l Z a0 hw ws a1 a2 s1 s2 k1 k2 kl x0 x1 x2 x3 x4 x5 x6 h0 n0 Z0 E_a1 g_a1 g_s1 g_s2 F_line F_starts F_ends F_count V_1 V_2 V_l ne_a1_a2 ne_a1_s1 ne_a1_s2 ne_a2_s1 ne_a2_s2 ne_s1_s2 hx0 hx1 hx2 hx3 hx4 hx5 hx6
  · exact rm5_0_6 l Z a0 hw ws a1 a2 s1 s2 k1 k2 kl x0 x1 x2 x3 x4 x5 x6 h0 n0 Z0 E_a1 g_a1 g_s1 g_s2 F_line F_starts F_ends F_count V_1 V_2 V_l ne_a1_a2 ne_a1_s1 ne_a1_s2 ne_a2_s1 ne_a2_s2 ne_s1_s2 hx0 hx1 hx2 hx3 hx4 hx5 hx6
  · exact rm5_0_7 l Z a0 hw ws a1 a2 s1 s2 k1 k2 kl x0 x1 x2 x3 x4 x5 x6 h0 n0 Z0 E_a1 g_a1 g_s1 g_s2 F_line F_starts F_ends F_count V_1 V_2 V_l ne_a1_a2 ne_a1_s1 ne_a1_s2 ne_a2_s1 ne_a2_s2 ne_s1_s2 hx0 hx1 hx2 hx3 hx4 hx5 hx6
  · exact rm5_1_5 l Z a0 hw ws a1 a2 s1 s2 k1 k2 kl x0 x1 x2 x3 x4 x5 x6 h0 n0 Z0 E_a1 g_a1 g_s1 g_s2 F_line F_starts F_ends F_count V_1 V_2 V_l ne_a1_a2 ne_a1_s1 ne_a1_s2 ne_a2_s1 ne_a2_s2 ne_s1_s2 hx0 hx1 hx2 hx3 hx4 hx5 hx6
  · exact rm5_1_6 l Z a0 hw ws a1 a2 s1 s2 k1 k2 kl x0 x1 x2 x3 x4 x5 x6 h0 n0 Z0 E_a1 g_a1 g_s1 g_s2 F_line F_starts F_ends F_count V_1 V_2 V_l ne_a1_a2 ne_a1_s1 ne_a1_s2 ne_a2_s1 ne_a2_s2 ne_s1_s2 hx0 hx1 hx2 hx3 hx4 hx5 hx6
  · exact rm5_1_7 l Z a0 hw ws a1 a2 s1 s2 k1 k2 kl x0 x1 x2 x3 x4 x5 x6 h0 n0 Z0 E_a1 g_a1 g_s1 g_s2 F_line F_starts F_ends F_count V_1 V_2 V_l ne_a1_a2 ne_a1_s1 ne_a1_s2 ne_a2_s1 ne_a2_s2 ne_s1_s2 hx0 hx1 hx2 hx3 hx4 hx5 hx6
  · exact rm5_2_5 l Z a0 hw ws a1 a2 s1 s2 k1 k2 kl x0 x1 x2 x3 x4 x5 x6 h0 n0 Z0 E_a1 g_a1 g_s1 g_s2 F_line F_starts F_ends F_count V_1 V_2 V_l ne_a1_a2 ne_a1_s1 ne_a1_s2 ne_a2_s1 ne_a2_s2 ne_s1_s2 hx0 hx1 hx2 hx3 hx4 hx5 hx6
  · exact rm5_2_6 l Z a0 hw ws a1 a2 s1 s2 k1 k2 kl x0 x1 x2 x3 x4 x5 x6 h0 n0 Z0 E_a1 g_a1 g_s1 g_s2 F_line F_starts F_ends F_count V_1 V_2 V_l ne_a1_a2 ne_a1_s1 ne_a1_s2 ne_a2_s1 ne_a2_s2 ne_s1_s2 hx0 hx1 hx2 hx3 hx4 hx5 hx6
  · exact rm5_2_7 l Z a0 hw ws a1 a2 s1 s2 k1 k2 kl x0 x1 x2 x3 x4 x5 x6 h0 n0 Z0 E_a1 g_a1 g_s1 g_s2 F_line F_starts F_ends F_count V_1 V_2 V_l ne_a1_a2 ne_a1_s1 ne_a1_s2 ne_a2_s1 ne_a2_s2 ne_s1_s2 hx0 hx1 hx2 hx3 hx4 hx5 hx6
def own_sel (p a b : Int32) : Int32 := if p = (0 : Int32) then a else b
theorem own_selL {p a b : Int32} {r : List Value} {dv : Value} (h : p = 0 ∨ p = 1) (e1 : r.getD 0 dv = .int a) (e2 : r.getD 1 dv = .int b) : r.getD p.toNatClampNeg dv = .int (own_sel p a b) := by
  rcases h with rfl | rfl
  · exact e1
  · exact e2
theorem own_in16 {p : Int32} (h : p = 0 ∨ p = 1) : ¬ p < 0 ∧ p < (16 : Int32) := by rcases h with rfl | rfl <;> decide
def own_at (x0 x1 x2 x3 x4 x5 x6 j : Int32) : Int32 := if j = 0 then x0 else if j = 1 then x1 else if j = 2 then x2 else if j = 3 then x3 else if j = 4 then x4 else if j = 5 then x5 else x6
theorem own_atL {x0 x1 x2 x3 x4 x5 x6 j : Int32} (h : ¬ j < 0 ∧ j < (7 : Int32)) : ([(.int x0), (.int x1), (.int x2), (.int x3), (.int x4), (.int x5), (.int x6)] : List Value).getD j.toNatClampNeg (.int (0 : Int32)) = .int (own_at x0 x1 x2 x3 x4 x5 x6 j) := by
  have e0 : (0 : Int32).toInt = 0 := rfl
  have e7 : (7 : Int32).toInt = 7 := rfl
  obtain ⟨h0, h1⟩ := h
  rw [Int32.lt_iff_toInt_lt] at h0 h1
  rcases own_small7 j (by omega) (by omega) with rfl | rfl | rfl | rfl | rfl | rfl | rfl <;> rfl
theorem own_inb1_0 {p f t : Int32} (hp : p = 0 ∨ p = 1) (hf : f = 0 ∨ f = 1 ∨ f = 2) (ht : t = 5 ∨ t = 6 ∨ t = 7) (h : (own_sel p (3 : Int32) t - own_sel p f (4 : Int32)) = (1 : Int32)) : ¬ (own_sel p f (4 : Int32) + (0 : Int32)) < 0 ∧ (own_sel p f (4 : Int32) + (0 : Int32)) < (7 : Int32) := by
  rcases hp with rfl | rfl <;> rcases hf with rfl | rfl | rfl <;> rcases ht with rfl | rfl | rfl <;> revert h <;> decide
theorem own_inb2_0 {p f t : Int32} (hp : p = 0 ∨ p = 1) (hf : f = 0 ∨ f = 1 ∨ f = 2) (ht : t = 5 ∨ t = 6 ∨ t = 7) (h : (own_sel p (3 : Int32) t - own_sel p f (4 : Int32)) = (2 : Int32)) : ¬ (own_sel p f (4 : Int32) + (0 : Int32)) < 0 ∧ (own_sel p f (4 : Int32) + (0 : Int32)) < (7 : Int32) := by
  rcases hp with rfl | rfl <;> rcases hf with rfl | rfl | rfl <;> rcases ht with rfl | rfl | rfl <;> revert h <;> decide
theorem own_inb2_1 {p f t : Int32} (hp : p = 0 ∨ p = 1) (hf : f = 0 ∨ f = 1 ∨ f = 2) (ht : t = 5 ∨ t = 6 ∨ t = 7) (h : (own_sel p (3 : Int32) t - own_sel p f (4 : Int32)) = (2 : Int32)) : ¬ (own_sel p f (4 : Int32) + (1 : Int32)) < 0 ∧ (own_sel p f (4 : Int32) + (1 : Int32)) < (7 : Int32) := by
  rcases hp with rfl | rfl <;> rcases hf with rfl | rfl | rfl <;> rcases ht with rfl | rfl | rfl <;> revert h <;> decide
theorem own_inb3_0 {p f t : Int32} (hp : p = 0 ∨ p = 1) (hf : f = 0 ∨ f = 1 ∨ f = 2) (ht : t = 5 ∨ t = 6 ∨ t = 7) (h : (own_sel p (3 : Int32) t - own_sel p f (4 : Int32)) = (3 : Int32)) : ¬ (own_sel p f (4 : Int32) + (0 : Int32)) < 0 ∧ (own_sel p f (4 : Int32) + (0 : Int32)) < (7 : Int32) := by
  rcases hp with rfl | rfl <;> rcases hf with rfl | rfl | rfl <;> rcases ht with rfl | rfl | rfl <;> revert h <;> decide
theorem own_inb3_1 {p f t : Int32} (hp : p = 0 ∨ p = 1) (hf : f = 0 ∨ f = 1 ∨ f = 2) (ht : t = 5 ∨ t = 6 ∨ t = 7) (h : (own_sel p (3 : Int32) t - own_sel p f (4 : Int32)) = (3 : Int32)) : ¬ (own_sel p f (4 : Int32) + (1 : Int32)) < 0 ∧ (own_sel p f (4 : Int32) + (1 : Int32)) < (7 : Int32) := by
  rcases hp with rfl | rfl <;> rcases hf with rfl | rfl | rfl <;> rcases ht with rfl | rfl | rfl <;> revert h <;> decide
theorem own_inb3_2 {p f t : Int32} (hp : p = 0 ∨ p = 1) (hf : f = 0 ∨ f = 1 ∨ f = 2) (ht : t = 5 ∨ t = 6 ∨ t = 7) (h : (own_sel p (3 : Int32) t - own_sel p f (4 : Int32)) = (3 : Int32)) : ¬ (own_sel p f (4 : Int32) + (2 : Int32)) < 0 ∧ (own_sel p f (4 : Int32) + (2 : Int32)) < (7 : Int32) := by
  rcases hp with rfl | rfl <;> rcases hf with rfl | rfl | rfl <;> rcases ht with rfl | rfl | rfl <;> revert h <;> decide

def own_is_0 (p2 : Int32) (fz tz : Int32) (x0 : Int32) (x1 : Int32) (x2 : Int32) (x3 : Int32) (x4 : Int32) (x5 : Int32) (x6 : Int32) : Int32 := (if ((own_sel p2 (3 : Int32) tz) - (own_sel p2 fz (4 : Int32))) = (0 : Int32) then (1 : Int32) else (0 : Int32))
theorem d7_0 : decode prog_41_method_7_code 0 = .ok (.aload_n 0, 1) := by decide +kernel
theorem d7_1 : decode prog_41_method_7_code 1 = .ok (.getfield 7, 3) := by decide +kernel
theorem d7_4 : decode prog_41_method_7_code 4 = .ok (.iload_n 1, 1) := by decide +kernel
theorem d7_5 : decode prog_41_method_7_code 5 = .ok (.iaload, 1) := by decide +kernel
theorem d7_6 : decode prog_41_method_7_code 6 = .ok (.istore_n 3, 1) := by decide +kernel
theorem d7_7 : decode prog_41_method_7_code 7 = .ok (.aload_n 0, 1) := by decide +kernel
theorem d7_8 : decode prog_41_method_7_code 8 = .ok (.getfield 13, 3) := by decide +kernel
theorem d7_11 : decode prog_41_method_7_code 11 = .ok (.iload_n 1, 1) := by decide +kernel
theorem d7_12 : decode prog_41_method_7_code 12 = .ok (.iaload, 1) := by decide +kernel
theorem d7_13 : decode prog_41_method_7_code 13 = .ok (.iload_n 3, 1) := by decide +kernel
theorem d7_14 : decode prog_41_method_7_code 14 = .ok (.isub, 1) := by decide +kernel
theorem d7_15 : decode prog_41_method_7_code 15 = .ok (.aload_n 2, 1) := by decide +kernel
theorem d7_16 : decode prog_41_method_7_code 16 = .ok (.arraylength, 1) := by decide +kernel
theorem d7_17 : decode prog_41_method_7_code 17 = .ok (.if_icmp .eq 5, 3) := by decide +kernel
theorem d7_20 : decode prog_41_method_7_code 20 = .ok (.iconst 0, 1) := by decide +kernel
theorem d7_21 : decode prog_41_method_7_code 21 = .ok (.ireturn, 1) := by decide +kernel
theorem d7_22 : decode prog_41_method_7_code 22 = .ok (.iconst 0, 1) := by decide +kernel
theorem d7_23 : decode prog_41_method_7_code 23 = .ok (.istore 4, 2) := by decide +kernel
theorem d7_25 : decode prog_41_method_7_code 25 = .ok (.iload 4, 2) := by decide +kernel
theorem d7_27 : decode prog_41_method_7_code 27 = .ok (.aload_n 2, 1) := by decide +kernel
theorem d7_28 : decode prog_41_method_7_code 28 = .ok (.arraylength, 1) := by decide +kernel
theorem d7_29 : decode prog_41_method_7_code 29 = .ok (.if_icmp .ge 27, 3) := by decide +kernel
theorem d7_56 : decode prog_41_method_7_code 56 = .ok (.iconst 1, 1) := by decide +kernel
theorem d7_57 : decode prog_41_method_7_code 57 = .ok (.ireturn, 1) := by decide +kernel
theorem ef_7_0 (m : MethodId) (x0 : Addr) (x1 : Int32) (x2 : Addr) : entryFrame m #[(.ref x0), (.int x1), (.ref x2)] 5 = mkF m 0 #[.val (.ref x0), .val (.int x1), .val (.ref x2), .unset, .unset] [] := by first | (simp [entryFrame, mkF, argsToLocals, Value.category]; done) | rfl
def Q7_0 (Z : State) (a1 : Addr) (p2 : Int32) (a3 : Addr) (s1 s2 al : Addr) (k1 k2 kl ke : ClassId) (fz tz : Int32) (x0 : Int32) (x1 : Int32) (x2 : Int32) (x3 : Int32) (x4 : Int32) (x5 : Int32) (x6 : Int32) (h0 : Heap) (v : Option Value) (h : Heap) (L : List Loc) : Prop := v = some (.int (own_is_0 p2 fz tz x0 x1 x2 x3 x4 x5 x6)) ∧ L = [] ∧ h = h0
set_option maxRecDepth 65536 in
set_option maxHeartbeats 40000000 in
theorem rm7_0 (l : Launch) (Z : State) (a0 : Array Value) (hw : ∀ d ∈ tables_1, d.before a0 Z = true) (ws : List Jvm.Cond) (a1 : Addr) (p2 : Int32) (a3 : Addr) (s1 s2 al : Addr) (k1 k2 kl ke : ClassId) (fz tz : Int32) (x0 : Int32) (x1 : Int32) (x2 : Int32) (x3 : Int32) (x4 : Int32) (x5 : Int32) (x6 : Int32) (h0 : Heap) (F_line : Fld Z h0 a1 "com/example/tidemine/tidemine/TextFormat$Tokens" "line" "[B" (.ref al)) (F_starts : Fld Z h0 a1 "com/example/tidemine/tidemine/TextFormat$Tokens" "starts" "[I" (.ref s1)) (F_ends : Fld Z h0 a1 "com/example/tidemine/tidemine/TextFormat$Tokens" "ends" "[I" (.ref s2)) (V_1 : Arv Z h0 s1 k1 .int (16 : Int32) [(.int fz), (.int (4 : Int32)), (.int (0 : Int32)), (.int (0 : Int32)), (.int (0 : Int32)), (.int (0 : Int32)), (.int (0 : Int32)), (.int (0 : Int32)), (.int (0 : Int32)), (.int (0 : Int32)), (.int (0 : Int32)), (.int (0 : Int32)), (.int (0 : Int32)), (.int (0 : Int32)), (.int (0 : Int32)), (.int (0 : Int32))] (.int (0 : Int32))) (V_2 : Arv Z h0 s2 k2 .int (16 : Int32) [(.int (3 : Int32)), (.int tz), (.int (0 : Int32)), (.int (0 : Int32)), (.int (0 : Int32)), (.int (0 : Int32)), (.int (0 : Int32)), (.int (0 : Int32)), (.int (0 : Int32)), (.int (0 : Int32)), (.int (0 : Int32)), (.int (0 : Int32)), (.int (0 : Int32)), (.int (0 : Int32)), (.int (0 : Int32)), (.int (0 : Int32))] (.int (0 : Int32))) (V_l : Arv Z h0 al kl .byte (7 : Int32) [(.int x0), (.int x1), (.int x2), (.int x3), (.int x4), (.int x5), (.int x6)] (.int (0 : Int32))) (V_e : Arv Z h0 a3 ke .byte (0 : Int32) [] (.int (0 : Int32))) (qp : p2 = 0 ∨ p2 = 1) (qf : fz = 0 ∨ fz = 1 ∨ fz = 2) (qt : tz = 5 ∨ tz = 6 ∨ tz = 7) :
    MetFree l (⟨"com/example/tidemine/tidemine/TextFormat$Tokens", "is", "(I[B)Z"⟩ : MethodName) (head1 (Jvm.Cond.code (⟨"com/example/tidemine/tidemine/TextFormat$Tokens", "is", "(I[B)Z"⟩ : MethodName) prog_41_method_7_code 5 (some .boolean) :: ws) ({ frames := 0, cells := 0, slots := 0, locals := 0 } : Room)) (fun a U => a = #[(.ref a1), (.int p2), (.ref a3)] ∧ Z.Warmed39 U.vm ∧ U.heap = h0) (fun _ _ _ _ _ => True) (fun _ U o U' => ∃ v L, o = .returned v ∧ Q7_0 Z a1 p2 a3 s1 s2 al k1 k2 kl ke fz tz x0 x1 x2 x3 x4 x5 x6 h0 v U'.heap L ∧ FrameEnd U o U' L ({ frames := 0, cells := 0, slots := 0, locals := 0 } : Room).cells ({ frames := 0, cells := 0, slots := 0, locals := 0 } : Room).slots) := by
  refine MetFree.of_bodySF (plainFor_of_name pn_2) hisR ?_
  intro p e s m args below meth c s₁ Bd hml0 hP hK
  obtain ⟨rfl, hZ, hh⟩ := hP
  have hx := Bd.exec
  have hby := Bd.bytes
  have hml : c.maxLocals = 5 := hml0
  have hown : s.vm.findClass "com/example/tidemine/tidemine/TextFormat$Tokens" = some m.cls := findClass_of_methodNamed Bd.named
  have hnm := (name_of_methodNamed Bd.named Bd.method).1
  have X0 : Stand p l e ({ frames := 0, cells := 0, slots := 0, locals := 0 } : Room) s m #[(.ref a1), (.int p2), (.ref a3)] below meth c s₁ [] 0 0 := Stand.of_body Bd
  have e0 : s₁.heap = h0 := by rw [← hh, Bd.state]; rfl
  have pre0 : ∀ t, Steps p.tables e below (s₁.setTop (mkF m 0 #[.val (.ref a1), .val (.int p2), .val (.ref a3), .unset, .unset] [])) t → Steps p.tables e below (s₁.setTop (entryFrame m #[(.ref a1), (.int p2), (.ref a3)] 5)) t := fun t k => castTop (ef_7_0 m a1 p2 a3) k
  obtain ⟨T1, X1, e1, st1⟩ := getF X0 hx hZ hown (host := "") (Or.inl (hw _ (List.mem_of_getElem? (i := 19) rfl))) Via.refl e0 F_starts (g := (mkF m 1 #[vR a1, vI p2, vR a3, .unset, .unset] [iR a1])) rfl rfl (hb hby d7_1)
  obtain ⟨cl2, Ar2, q2, S2, M2, H2, G2⟩ := id V_1
  have hin3 : ¬ (p2 < 0 ∨ cl2.slots.size ≤ (p2).toNatClampNeg) := inb_of S2 (own_in16 qp)
  have hat4 : cl2.slots[(p2).toNatClampNeg]? = some (.int (own_sel p2 fz (4 : Int32))) := Has.at H2 hin3 (own_selL qp rfl rfl)
  obtain ⟨T5, X5, e5, st5⟩ := getF X1 hx hZ hown (host := "") (Or.inl (hw _ (List.mem_of_getElem? (i := 21) rfl))) Via.refl e1 F_ends (g := (mkF m 8 #[vR a1, vI p2, vR a3, vI (own_sel p2 fz (4 : Int32)), .unset] [iR a1])) rfl rfl (hb hby d7_8)
  obtain ⟨cl6, Ar6, q6, S6, M6, H6, G6⟩ := id V_2
  have hin7 : ¬ (p2 < 0 ∨ cl6.slots.size ≤ (p2).toNatClampNeg) := inb_of S6 (own_in16 qp)
  have hat8 : cl6.slots[(p2).toNatClampNeg]? = some (.int (own_sel p2 (3 : Int32) tz)) := Has.at H6 hin7 (own_selL qp rfl rfl)
  obtain ⟨cl9, Ar9, q9, S9, M9, H9, G9⟩ := id V_e
  have pre11 : ∀ t, Steps p.tables e below (T5.setTop (mkF m 17 #[vR a1, vI p2, vR a3, vI (own_sel p2 fz (4 : Int32)), .unset] [iI 0, iI ((own_sel p2 (3 : Int32) tz) - (own_sel p2 fz (4 : Int32)))])) t → Steps p.tables e below (s₁.setTop (entryFrame m #[(.ref a1), (.int p2), (.ref a3)] 5)) t := by
    intro t kt
    refine pre0 t ?_
    show Steps _ _ _ (s₁.setTop (mkF m 0 #[vR a1, vI p2, vR a3, .unset, .unset] [])) _
    refine XS.aloadN X0.here hx rfl (hb hby d7_0) rfl rfl ?_
    show Steps _ _ _ (s₁.setTop (mkF m 1 #[vR a1, vI p2, vR a3, .unset, .unset] [iR a1])) _
    refine st1 _ ?_
    show Steps _ _ _ (T1.setTop (mkF m 4 #[vR a1, vI p2, vR a3, .unset, .unset] [iR s1])) _
    refine XS.iloadN X1.here hx rfl (hb hby d7_4) rfl ?_
    show Steps _ _ _ (T1.setTop (mkF m 5 #[vR a1, vI p2, vR a3, .unset, .unset] [iI p2, iR s1])) _
    refine X1.iaload hx (j := p2) (v := (.int (own_sel p2 fz (4 : Int32)))) (by rw [e1]; exact Ar2.1) (State.isArrayOf_alike hZ.alike Ar2.2.1) Ar2.2.2 hin3 hat4 (g := (mkF m 5 #[vR a1, vI p2, vR a3, .unset, .unset] [iI p2, iR s1])) rfl rfl (hb hby d7_5) _ ?_
    show Steps _ _ _ (T1.setTop (mkF m 6 #[vR a1, vI p2, vR a3, .unset, .unset] [iI (own_sel p2 fz (4 : Int32))])) _
    refine XS.istoreN X1.here hx rfl (hb hby d7_6) rfl (l' := #[vR a1, vI p2, vR a3, vI (own_sel p2 fz (4 : Int32)), .unset]) rfl ?_
    show Steps _ _ _ (T1.setTop (mkF m 7 #[vR a1, vI p2, vR a3, vI (own_sel p2 fz (4 : Int32)), .unset] [])) _
    refine XS.aloadN X1.here hx rfl (hb hby d7_7) rfl rfl ?_
    show Steps _ _ _ (T1.setTop (mkF m 8 #[vR a1, vI p2, vR a3, vI (own_sel p2 fz (4 : Int32)), .unset] [iR a1])) _
    refine st5 _ ?_
    show Steps _ _ _ (T5.setTop (mkF m 11 #[vR a1, vI p2, vR a3, vI (own_sel p2 fz (4 : Int32)), .unset] [iR s2])) _
    refine XS.iloadN X5.here hx rfl (hb hby d7_11) rfl ?_
    show Steps _ _ _ (T5.setTop (mkF m 12 #[vR a1, vI p2, vR a3, vI (own_sel p2 fz (4 : Int32)), .unset] [iI p2, iR s2])) _
    refine X5.iaload hx (j := p2) (v := (.int (own_sel p2 (3 : Int32) tz))) (by rw [e5]; exact Ar6.1) (State.isArrayOf_alike hZ.alike Ar6.2.1) Ar6.2.2 hin7 hat8 (g := (mkF m 12 #[vR a1, vI p2, vR a3, vI (own_sel p2 fz (4 : Int32)), .unset] [iI p2, iR s2])) rfl rfl (hb hby d7_12) _ ?_
    show Steps _ _ _ (T5.setTop (mkF m 13 #[vR a1, vI p2, vR a3, vI (own_sel p2 fz (4 : Int32)), .unset] [iI (own_sel p2 (3 : Int32) tz)])) _
    refine XS.iloadN X5.here hx rfl (hb hby d7_13) rfl ?_
    show Steps _ _ _ (T5.setTop (mkF m 14 #[vR a1, vI p2, vR a3, vI (own_sel p2 fz (4 : Int32)), .unset] [iI (own_sel p2 fz (4 : Int32)), iI (own_sel p2 (3 : Int32) tz)])) _
    refine XS.isub X5.here hx rfl (hb hby d7_14) rfl ?_
    show Steps _ _ _ (T5.setTop (mkF m 15 #[vR a1, vI p2, vR a3, vI (own_sel p2 fz (4 : Int32)), .unset] [iI ((own_sel p2 (3 : Int32) tz) - (own_sel p2 fz (4 : Int32)))])) _
    refine XS.aloadN X5.here hx rfl (hb hby d7_15) rfl rfl ?_
    show Steps _ _ _ (T5.setTop (mkF m 16 #[vR a1, vI p2, vR a3, vI (own_sel p2 fz (4 : Int32)), .unset] [iR a3, iI ((own_sel p2 (3 : Int32) tz) - (own_sel p2 fz (4 : Int32)))])) _
    refine X5.arraylength hx (by rw [e5]; exact Ar9.1) (State.isArrayOf_alike hZ.alike Ar9.2.1) (g := (mkF m 16 #[vR a1, vI p2, vR a3, vI (own_sel p2 fz (4 : Int32)), .unset] [iR a3, iI ((own_sel p2 (3 : Int32) tz) - (own_sel p2 fz (4 : Int32)))])) rfl rfl (hb hby d7_16) _ ?_
    rw [len_of S9 M9]
    exact kt
  by_cases hc10 : ((own_sel p2 (3 : Int32) tz) - (own_sel p2 fz (4 : Int32))) = (0 : Int32)
  · obtain ⟨fs, hr, hrun, hended, hW, hsame⟩ := X5.leave (v := some (.int (1 : Int32))) (fun h => by rw [Bd.returns] at h; cases h)
    refine ⟨_, _, pre11 _ ?_, hrun, hended, _, _, rfl, ?_, ⟨_, rfl⟩, hW, hsame.mono (by decide) (by decide)⟩
    · show Steps _ _ _ (T5.setTop (mkF m 17 #[vR a1, vI p2, vR a3, vI (own_sel p2 fz (4 : Int32)), .unset] [iI 0, iI ((own_sel p2 (3 : Int32) tz) - (own_sel p2 fz (4 : Int32)))])) _
      refine XS.icmpYes X5.here hx rfl (pc0 := 17) (pc' := 22) rfl (hb hby d7_17) rfl (teq hc10).1 (by decide) (by decide) ?_
      show Steps _ _ _ (T5.setTop (mkF m 22 #[vR a1, vI p2, vR a3, vI (own_sel p2 fz (4 : Int32)), .unset] [])) _
      refine XS.iconst X5.here hx rfl (hb hby d7_22) ?_
      show Steps _ _ _ (T5.setTop (mkF m 23 #[vR a1, vI p2, vR a3, vI (own_sel p2 fz (4 : Int32)), .unset] [iI 0])) _
      refine XS.istore X5.here hx rfl (hb hby d7_23) rfl (l' := #[vR a1, vI p2, vR a3, vI (own_sel p2 fz (4 : Int32)), vI 0]) rfl ?_
      show Steps _ _ _ (T5.setTop (mkF m 25 #[vR a1, vI p2, vR a3, vI (own_sel p2 fz (4 : Int32)), vI 0] [])) _
      refine XS.iload X5.here hx rfl (hb hby d7_25) rfl ?_
      show Steps _ _ _ (T5.setTop (mkF m 27 #[vR a1, vI p2, vR a3, vI (own_sel p2 fz (4 : Int32)), vI 0] [iI 0])) _
      refine XS.aloadN X5.here hx rfl (hb hby d7_27) rfl rfl ?_
      show Steps _ _ _ (T5.setTop (mkF m 28 #[vR a1, vI p2, vR a3, vI (own_sel p2 fz (4 : Int32)), vI 0] [iR a3, iI 0])) _
      refine X5.arraylength hx (by rw [e5]; exact Ar9.1) (State.isArrayOf_alike hZ.alike Ar9.2.1) (g := (mkF m 28 #[vR a1, vI p2, vR a3, vI (own_sel p2 fz (4 : Int32)), vI 0] [iR a3, iI 0])) rfl rfl (hb hby d7_28) _ ?_
      rw [len_of S9 M9]
      show Steps _ _ _ (T5.setTop (mkF m 29 #[vR a1, vI p2, vR a3, vI (own_sel p2 fz (4 : Int32)), vI 0] [iI 0, iI 0])) _
      refine XS.icmpYes X5.here hx rfl (pc0 := 29) (pc' := 56) rfl (hb hby d7_29) rfl (flt (by decide : ¬ ((0 : Int32) < (0 : Int32)))).2.1 (by decide) (by decide) ?_
      show Steps _ _ _ (T5.setTop (mkF m 56 #[vR a1, vI p2, vR a3, vI (own_sel p2 fz (4 : Int32)), vI 0] [])) _
      refine XS.iconst X5.here hx rfl (hb hby d7_56) ?_
      show Steps _ _ _ (T5.setTop (mkF m 57 #[vR a1, vI p2, vR a3, vI (own_sel p2 fz (4 : Int32)), vI 0] [iI 1])) _
      exact retN X5 hx (t := .boolean) Bd.returns (by simp) (hb hby d7_57) hr
    · show Q7_0 Z a1 p2 a3 s1 s2 al k1 k2 kl ke fz tz x0 x1 x2 x3 x4 x5 x6 h0 _ T5.heap _
      rw [e5]
      exact ⟨by first | rfl | (simp only [own_is_0, if_pos hc10]; done) | (simp only [own_is_0, if_pos hc10]; rfl) | (simp only [own_is_0, if_pos hc10, nar] ; first | rfl | (simp; done) | decide), rfl, rfl⟩
  · obtain ⟨fs, hr, hrun, hended, hW, hsame⟩ := X5.leave (v := some (.int (0 : Int32))) (fun h => by rw [Bd.returns] at h; cases h)
    refine ⟨_, _, pre11 _ ?_, hrun, hended, _, _, rfl, ?_, ⟨_, rfl⟩, hW, hsame.mono (by decide) (by decide)⟩
    · show Steps _ _ _ (T5.setTop (mkF m 17 #[vR a1, vI p2, vR a3, vI (own_sel p2 fz (4 : Int32)), .unset] [iI 0, iI ((own_sel p2 (3 : Int32) tz) - (own_sel p2 fz (4 : Int32)))])) _
      refine XS.icmpNo X5.here hx rfl (hb hby d7_17) rfl (feq hc10).1 ?_
      show Steps _ _ _ (T5.setTop (mkF m 20 #[vR a1, vI p2, vR a3, vI (own_sel p2 fz (4 : Int32)), .unset] [])) _
      refine XS.iconst X5.here hx rfl (hb hby d7_20) ?_
      show Steps _ _ _ (T5.setTop (mkF m 21 #[vR a1, vI p2, vR a3, vI (own_sel p2 fz (4 : Int32)), .unset] [iI 0])) _
      exact retN X5 hx (t := .boolean) Bd.returns (by simp) (hb hby d7_21) hr
    · show Q7_0 Z a1 p2 a3 s1 s2 al k1 k2 kl ke fz tz x0 x1 x2 x3 x4 x5 x6 h0 _ T5.heap _
      rw [e5]
      exact ⟨by first | rfl | (simp only [own_is_0, if_neg hc10]; done) | (simp only [own_is_0, if_neg hc10]; rfl) | (simp only [own_is_0, if_neg hc10, nar] ; first | rfl | (simp; done) | decide), rfl, rfl⟩
def own_is_1 (p2 : Int32) (fz tz : Int32) (x0 : Int32) (x1 : Int32) (x2 : Int32) (x3 : Int32) (x4 : Int32) (x5 : Int32) (x6 : Int32) (y0 : Int32) : Int32 := (if ((own_sel p2 (3 : Int32) tz) - (own_sel p2 fz (4 : Int32))) = (1 : Int32) then (if (own_at x0 x1 x2 x3 x4 x5 x6 ((own_sel p2 fz (4 : Int32)) + (0 : Int32))) = y0 then (1 : Int32) else (0 : Int32)) else (0 : Int32))
theorem d7_32 : decode prog_41_method_7_code 32 = .ok (.aload_n 0, 1) := by decide +kernel
theorem d7_33 : decode prog_41_method_7_code 33 = .ok (.getfield 16, 3) := by decide +kernel
theorem d7_36 : decode prog_41_method_7_code 36 = .ok (.iload_n 3, 1) := by decide +kernel
theorem d7_37 : decode prog_41_method_7_code 37 = .ok (.iload 4, 2) := by decide +kernel
theorem d7_39 : decode prog_41_method_7_code 39 = .ok (.iadd, 1) := by decide +kernel
theorem d7_40 : decode prog_41_method_7_code 40 = .ok (.baload, 1) := by decide +kernel
theorem d7_41 : decode prog_41_method_7_code 41 = .ok (.aload_n 2, 1) := by decide +kernel
theorem d7_42 : decode prog_41_method_7_code 42 = .ok (.iload 4, 2) := by decide +kernel
theorem d7_44 : decode prog_41_method_7_code 44 = .ok (.baload, 1) := by decide +kernel
theorem d7_45 : decode prog_41_method_7_code 45 = .ok (.if_icmp .eq 5, 3) := by decide +kernel
theorem d7_48 : decode prog_41_method_7_code 48 = .ok (.iconst 0, 1) := by decide +kernel
theorem d7_49 : decode prog_41_method_7_code 49 = .ok (.ireturn, 1) := by decide +kernel
theorem d7_50 : decode prog_41_method_7_code 50 = .ok (.iinc 4 1, 3) := by decide +kernel
theorem d7_53 : decode prog_41_method_7_code 53 = .ok (.goto (-28), 3) := by decide +kernel
theorem ef_7_1 (m : MethodId) (x0 : Addr) (x1 : Int32) (x2 : Addr) : entryFrame m #[(.ref x0), (.int x1), (.ref x2)] 5 = mkF m 0 #[.val (.ref x0), .val (.int x1), .val (.ref x2), .unset, .unset] [] := by first | (simp [entryFrame, mkF, argsToLocals, Value.category]; done) | rfl
def Q7_1 (Z : State) (a1 : Addr) (p2 : Int32) (a3 : Addr) (s1 s2 al : Addr) (k1 k2 kl ke : ClassId) (fz tz : Int32) (x0 : Int32) (x1 : Int32) (x2 : Int32) (x3 : Int32) (x4 : Int32) (x5 : Int32) (x6 : Int32) (y0 : Int32) (h0 : Heap) (v : Option Value) (h : Heap) (L : List Loc) : Prop := v = some (.int (own_is_1 p2 fz tz x0 x1 x2 x3 x4 x5 x6 y0)) ∧ L = [] ∧ h = h0
set_option maxRecDepth 65536 in
set_option maxHeartbeats 40000000 in
theorem rm7_1 (l : Launch) (Z : State) (a0 : Array Value) (hw : ∀ d ∈ tables_1, d.before a0 Z = true) (ws : List Jvm.Cond) (a1 : Addr) (p2 : Int32) (a3 : Addr) (s1 s2 al : Addr) (k1 k2 kl ke : ClassId) (fz tz : Int32) (x0 : Int32) (x1 : Int32) (x2 : Int32) (x3 : Int32) (x4 : Int32) (x5 : Int32) (x6 : Int32) (y0 : Int32) (h0 : Heap) (F_line : Fld Z h0 a1 "com/example/tidemine/tidemine/TextFormat$Tokens" "line" "[B" (.ref al)) (F_starts : Fld Z h0 a1 "com/example/tidemine/tidemine/TextFormat$Tokens" "starts" "[I" (.ref s1)) (F_ends : Fld Z h0 a1 "com/example/tidemine/tidemine/TextFormat$Tokens" "ends" "[I" (.ref s2)) (V_1 : Arv Z h0 s1 k1 .int (16 : Int32) [(.int fz), (.int (4 : Int32)), (.int (0 : Int32)), (.int (0 : Int32)), (.int (0 : Int32)), (.int (0 : Int32)), (.int (0 : Int32)), (.int (0 : Int32)), (.int (0 : Int32)), (.int (0 : Int32)), (.int (0 : Int32)), (.int (0 : Int32)), (.int (0 : Int32)), (.int (0 : Int32)), (.int (0 : Int32)), (.int (0 : Int32))] (.int (0 : Int32))) (V_2 : Arv Z h0 s2 k2 .int (16 : Int32) [(.int (3 : Int32)), (.int tz), (.int (0 : Int32)), (.int (0 : Int32)), (.int (0 : Int32)), (.int (0 : Int32)), (.int (0 : Int32)), (.int (0 : Int32)), (.int (0 : Int32)), (.int (0 : Int32)), (.int (0 : Int32)), (.int (0 : Int32)), (.int (0 : Int32)), (.int (0 : Int32)), (.int (0 : Int32)), (.int (0 : Int32))] (.int (0 : Int32))) (V_l : Arv Z h0 al kl .byte (7 : Int32) [(.int x0), (.int x1), (.int x2), (.int x3), (.int x4), (.int x5), (.int x6)] (.int (0 : Int32))) (V_e : Arv Z h0 a3 ke .byte (1 : Int32) [(.int y0)] (.int (0 : Int32))) (qp : p2 = 0 ∨ p2 = 1) (qf : fz = 0 ∨ fz = 1 ∨ fz = 2) (qt : tz = 5 ∨ tz = 6 ∨ tz = 7) :
    MetFree l (⟨"com/example/tidemine/tidemine/TextFormat$Tokens", "is", "(I[B)Z"⟩ : MethodName) (head1 (Jvm.Cond.code (⟨"com/example/tidemine/tidemine/TextFormat$Tokens", "is", "(I[B)Z"⟩ : MethodName) prog_41_method_7_code 5 (some .boolean) :: ws) ({ frames := 0, cells := 0, slots := 0, locals := 0 } : Room)) (fun a U => a = #[(.ref a1), (.int p2), (.ref a3)] ∧ Z.Warmed39 U.vm ∧ U.heap = h0) (fun _ _ _ _ _ => True) (fun _ U o U' => ∃ v L, o = .returned v ∧ Q7_1 Z a1 p2 a3 s1 s2 al k1 k2 kl ke fz tz x0 x1 x2 x3 x4 x5 x6 y0 h0 v U'.heap L ∧ FrameEnd U o U' L ({ frames := 0, cells := 0, slots := 0, locals := 0 } : Room).cells ({ frames := 0, cells := 0, slots := 0, locals := 0 } : Room).slots) := by
  refine MetFree.of_bodySF (plainFor_of_name pn_2) hisR ?_
  intro p e s m args below meth c s₁ Bd hml0 hP hK
  obtain ⟨rfl, hZ, hh⟩ := hP
  have hx := Bd.exec
  have hby := Bd.bytes
  have hml : c.maxLocals = 5 := hml0
  have hown : s.vm.findClass "com/example/tidemine/tidemine/TextFormat$Tokens" = some m.cls := findClass_of_methodNamed Bd.named
  have hnm := (name_of_methodNamed Bd.named Bd.method).1
  have X0 : Stand p l e ({ frames := 0, cells := 0, slots := 0, locals := 0 } : Room) s m #[(.ref a1), (.int p2), (.ref a3)] below meth c s₁ [] 0 0 := Stand.of_body Bd
  have e0 : s₁.heap = h0 := by rw [← hh, Bd.state]; rfl
  have pre0 : ∀ t, Steps p.tables e below (s₁.setTop (mkF m 0 #[.val (.ref a1), .val (.int p2), .val (.ref a3), .unset, .unset] [])) t → Steps p.tables e below (s₁.setTop (entryFrame m #[(.ref a1), (.int p2), (.ref a3)] 5)) t := fun t k => castTop (ef_7_1 m a1 p2 a3) k
  obtain ⟨T1, X1, e1, st1⟩ := getF X0 hx hZ hown (host := "") (Or.inl (hw _ (List.mem_of_getElem? (i := 19) rfl))) Via.refl e0 F_starts (g := (mkF m 1 #[vR a1, vI p2, vR a3, .unset, .unset] [iR a1])) rfl rfl (hb hby d7_1)
  obtain ⟨cl2, Ar2, q2, S2, M2, H2, G2⟩ := id V_1
  have hin3 : ¬ (p2 < 0 ∨ cl2.slots.size ≤ (p2).toNatClampNeg) := inb_of S2 (own_in16 qp)
  have hat4 : cl2.slots[(p2).toNatClampNeg]? = some (.int (own_sel p2 fz (4 : Int32))) := Has.at H2 hin3 (own_selL qp rfl rfl)
  obtain ⟨T5, X5, e5, st5⟩ := getF X1 hx hZ hown (host := "") (Or.inl (hw _ (List.mem_of_getElem? (i := 21) rfl))) Via.refl e1 F_ends (g := (mkF m 8 #[vR a1, vI p2, vR a3, vI (own_sel p2 fz (4 : Int32)), .unset] [iR a1])) rfl rfl (hb hby d7_8)
  obtain ⟨cl6, Ar6, q6, S6, M6, H6, G6⟩ := id V_2
  have hin7 : ¬ (p2 < 0 ∨ cl6.slots.size ≤ (p2).toNatClampNeg) := inb_of S6 (own_in16 qp)
  have hat8 : cl6.slots[(p2).toNatClampNeg]? = some (.int (own_sel p2 (3 : Int32) tz)) := Has.at H6 hin7 (own_selL qp rfl rfl)
  obtain ⟨cl9, Ar9, q9, S9, M9, H9, G9⟩ := id V_e
  have pre11 : ∀ t, Steps p.tables e below (T5.setTop (mkF m 17 #[vR a1, vI p2, vR a3, vI (own_sel p2 fz (4 : Int32)), .unset] [iI 1, iI ((own_sel p2 (3 : Int32) tz) - (own_sel p2 fz (4 : Int32)))])) t → Steps p.tables e below (s₁.setTop (entryFrame m #[(.ref a1), (.int p2), (.ref a3)] 5)) t := by
    intro t kt
    refine pre0 t ?_
    show Steps _ _ _ (s₁.setTop (mkF m 0 #[vR a1, vI p2, vR a3, .unset, .unset] [])) _
    refine XS.aloadN X0.here hx rfl (hb hby d7_0) rfl rfl ?_
    show Steps _ _ _ (s₁.setTop (mkF m 1 #[vR a1, vI p2, vR a3, .unset, .unset] [iR a1])) _
    refine st1 _ ?_
    show Steps _ _ _ (T1.setTop (mkF m 4 #[vR a1, vI p2, vR a3, .unset, .unset] [iR s1])) _
    refine XS.iloadN X1.here hx rfl (hb hby d7_4) rfl ?_
    show Steps _ _ _ (T1.setTop (mkF m 5 #[vR a1, vI p2, vR a3, .unset, .unset] [iI p2, iR s1])) _
    refine X1.iaload hx (j := p2) (v := (.int (own_sel p2 fz (4 : Int32)))) (by rw [e1]; exact Ar2.1) (State.isArrayOf_alike hZ.alike Ar2.2.1) Ar2.2.2 hin3 hat4 (g := (mkF m 5 #[vR a1, vI p2, vR a3, .unset, .unset] [iI p2, iR s1])) rfl rfl (hb hby d7_5) _ ?_
    show Steps _ _ _ (T1.setTop (mkF m 6 #[vR a1, vI p2, vR a3, .unset, .unset] [iI (own_sel p2 fz (4 : Int32))])) _
    refine XS.istoreN X1.here hx rfl (hb hby d7_6) rfl (l' := #[vR a1, vI p2, vR a3, vI (own_sel p2 fz (4 : Int32)), .unset]) rfl ?_
    show Steps _ _ _ (T1.setTop (mkF m 7 #[vR a1, vI p2, vR a3, vI (own_sel p2 fz (4 : Int32)), .unset] [])) _
    refine XS.aloadN X1.here hx rfl (hb hby d7_7) rfl rfl ?_
    show Steps _ _ _ (T1.setTop (mkF m 8 #[vR a1, vI p2, vR a3, vI (own_sel p2 fz (4 : Int32)), .unset] [iR a1])) _
    refine st5 _ ?_
    show Steps _ _ _ (T5.setTop (mkF m 11 #[vR a1, vI p2, vR a3, vI (own_sel p2 fz (4 : Int32)), .unset] [iR s2])) _
    refine XS.iloadN X5.here hx rfl (hb hby d7_11) rfl ?_
    show Steps _ _ _ (T5.setTop (mkF m 12 #[vR a1, vI p2, vR a3, vI (own_sel p2 fz (4 : Int32)), .unset] [iI p2, iR s2])) _
    refine X5.iaload hx (j := p2) (v := (.int (own_sel p2 (3 : Int32) tz))) (by rw [e5]; exact Ar6.1) (State.isArrayOf_alike hZ.alike Ar6.2.1) Ar6.2.2 hin7 hat8 (g := (mkF m 12 #[vR a1, vI p2, vR a3, vI (own_sel p2 fz (4 : Int32)), .unset] [iI p2, iR s2])) rfl rfl (hb hby d7_12) _ ?_
    show Steps _ _ _ (T5.setTop (mkF m 13 #[vR a1, vI p2, vR a3, vI (own_sel p2 fz (4 : Int32)), .unset] [iI (own_sel p2 (3 : Int32) tz)])) _
    refine XS.iloadN X5.here hx rfl (hb hby d7_13) rfl ?_
    show Steps _ _ _ (T5.setTop (mkF m 14 #[vR a1, vI p2, vR a3, vI (own_sel p2 fz (4 : Int32)), .unset] [iI (own_sel p2 fz (4 : Int32)), iI (own_sel p2 (3 : Int32) tz)])) _
    refine XS.isub X5.here hx rfl (hb hby d7_14) rfl ?_
    show Steps _ _ _ (T5.setTop (mkF m 15 #[vR a1, vI p2, vR a3, vI (own_sel p2 fz (4 : Int32)), .unset] [iI ((own_sel p2 (3 : Int32) tz) - (own_sel p2 fz (4 : Int32)))])) _
    refine XS.aloadN X5.here hx rfl (hb hby d7_15) rfl rfl ?_
    show Steps _ _ _ (T5.setTop (mkF m 16 #[vR a1, vI p2, vR a3, vI (own_sel p2 fz (4 : Int32)), .unset] [iR a3, iI ((own_sel p2 (3 : Int32) tz) - (own_sel p2 fz (4 : Int32)))])) _
    refine X5.arraylength hx (by rw [e5]; exact Ar9.1) (State.isArrayOf_alike hZ.alike Ar9.2.1) (g := (mkF m 16 #[vR a1, vI p2, vR a3, vI (own_sel p2 fz (4 : Int32)), .unset] [iR a3, iI ((own_sel p2 (3 : Int32) tz) - (own_sel p2 fz (4 : Int32)))])) rfl rfl (hb hby d7_16) _ ?_
    rw [len_of S9 M9]
    exact kt
  by_cases hc10 : ((own_sel p2 (3 : Int32) tz) - (own_sel p2 fz (4 : Int32))) = (1 : Int32)
  · obtain ⟨T12, X12, e12, st12⟩ := getF X5 hx hZ hown (host := "") (Or.inl (hw _ (List.mem_of_getElem? (i := 28) rfl))) Via.refl e5 F_line (g := (mkF m 33 #[vR a1, vI p2, vR a3, vI (own_sel p2 fz (4 : Int32)), vI 0] [iR a1])) rfl rfl (hb hby d7_33)
    obtain ⟨cl13, Ar13, q13, S13, M13, H13, G13⟩ := id V_l
    have hin14 : ¬ (((own_sel p2 fz (4 : Int32)) + (0 : Int32)) < 0 ∨ cl13.slots.size ≤ (((own_sel p2 fz (4 : Int32)) + (0 : Int32))).toNatClampNeg) := inb_of S13 (own_inb1_0 qp qf qt hc10)
    have hat15 : cl13.slots[(((own_sel p2 fz (4 : Int32)) + (0 : Int32))).toNatClampNeg]? = some (.int (own_at x0 x1 x2 x3 x4 x5 x6 ((own_sel p2 fz (4 : Int32)) + (0 : Int32)))) := Has.at H13 hin14 (own_atL (own_inb1_0 qp qf qt hc10))
    have hin16 : ¬ ((0 : Int32) < 0 ∨ cl9.slots.size ≤ ((0 : Int32)).toNatClampNeg) := inb_of S9 ⟨by decide, by decide⟩
    have hat17 : cl9.slots[((0 : Int32)).toNatClampNeg]? = some (.int y0) := Has.at H9 hin16 rfl
    have pre19 : ∀ t, Steps p.tables e below (T12.setTop (mkF m 45 #[vR a1, vI p2, vR a3, vI (own_sel p2 fz (4 : Int32)), vI 0] [iI y0, iI (own_at x0 x1 x2 x3 x4 x5 x6 ((own_sel p2 fz (4 : Int32)) + (0 : Int32)))])) t → Steps p.tables e below (s₁.setTop (entryFrame m #[(.ref a1), (.int p2), (.ref a3)] 5)) t := by
      intro t kt
      refine pre11 t ?_
      show Steps _ _ _ (T5.setTop (mkF m 17 #[vR a1, vI p2, vR a3, vI (own_sel p2 fz (4 : Int32)), .unset] [iI 1, iI ((own_sel p2 (3 : Int32) tz) - (own_sel p2 fz (4 : Int32)))])) _
      refine XS.icmpYes X5.here hx rfl (pc0 := 17) (pc' := 22) rfl (hb hby d7_17) rfl (teq hc10).1 (by decide) (by decide) ?_
      show Steps _ _ _ (T5.setTop (mkF m 22 #[vR a1, vI p2, vR a3, vI (own_sel p2 fz (4 : Int32)), .unset] [])) _
      refine XS.iconst X5.here hx rfl (hb hby d7_22) ?_
      show Steps _ _ _ (T5.setTop (mkF m 23 #[vR a1, vI p2, vR a3, vI (own_sel p2 fz (4 : Int32)), .unset] [iI 0])) _
      refine XS.istore X5.here hx rfl (hb hby d7_23) rfl (l' := #[vR a1, vI p2, vR a3, vI (own_sel p2 fz (4 : Int32)), vI 0]) rfl ?_
      show Steps _ _ _ (T5.setTop (mkF m 25 #[vR a1, vI p2, vR a3, vI (own_sel p2 fz (4 : Int32)), vI 0] [])) _
      refine XS.iload X5.here hx rfl (hb hby d7_25) rfl ?_
      show Steps _ _ _ (T5.setTop (mkF m 27 #[vR a1, vI p2, vR a3, vI (own_sel p2 fz (4 : Int32)), vI 0] [iI 0])) _
      refine XS.aloadN X5.here hx rfl (hb hby d7_27) rfl rfl ?_
      show Steps _ _ _ (T5.setTop (mkF m 28 #[vR a1, vI p2, vR a3, vI (own_sel p2 fz (4 : Int32)), vI 0] [iR a3, iI 0])) _
      refine X5.arraylength hx (by rw [e5]; exact Ar9.1) (State.isArrayOf_alike hZ.alike Ar9.2.1) (g := (mkF m 28 #[vR a1, vI p2, vR a3, vI (own_sel p2 fz (4 : Int32)), vI 0] [iR a3, iI 0])) rfl rfl (hb hby d7_28) _ ?_
      rw [len_of S9 M9]
      show Steps _ _ _ (T5.setTop (mkF m 29 #[vR a1, vI p2, vR a3, vI (own_sel p2 fz (4 : Int32)), vI 0] [iI 1, iI 0])) _
      refine XS.icmpNo X5.here hx rfl (hb hby d7_29) rfl (tlt (by decide : (0 : Int32) < (1 : Int32))).2.1 ?_
      show Steps _ _ _ (T5.setTop (mkF m 32 #[vR a1, vI p2, vR a3, vI (own_sel p2 fz (4 : Int32)), vI 0] [])) _
      refine XS.aloadN X5.here hx rfl (hb hby d7_32) rfl rfl ?_
      show Steps _ _ _ (T5.setTop (mkF m 33 #[vR a1, vI p2, vR a3, vI (own_sel p2 fz (4 : Int32)), vI 0] [iR a1])) _
      refine st12 _ ?_
      show Steps _ _ _ (T12.setTop (mkF m 36 #[vR a1, vI p2, vR a3, vI (own_sel p2 fz (4 : Int32)), vI 0] [iR al])) _
      refine XS.iloadN X12.here hx rfl (hb hby d7_36) rfl ?_
      show Steps _ _ _ (T12.setTop (mkF m 37 #[vR a1, vI p2, vR a3, vI (own_sel p2 fz (4 : Int32)), vI 0] [iI (own_sel p2 fz (4 : Int32)), iR al])) _
      refine XS.iload X12.here hx rfl (hb hby d7_37) rfl ?_
      show Steps _ _ _ (T12.setTop (mkF m 39 #[vR a1, vI p2, vR a3, vI (own_sel p2 fz (4 : Int32)), vI 0] [iI 0, iI (own_sel p2 fz (4 : Int32)), iR al])) _
      refine XS.iadd X12.here hx rfl (hb hby d7_39) rfl ?_
      show Steps _ _ _ (T12.setTop (mkF m 40 #[vR a1, vI p2, vR a3, vI (own_sel p2 fz (4 : Int32)), vI 0] [iI ((own_sel p2 fz (4 : Int32)) + (0 : Int32)), iR al])) _
      refine X12.baloadBytes hx (j := ((own_sel p2 fz (4 : Int32)) + (0 : Int32))) (v := (.int (own_at x0 x1 x2 x3 x4 x5 x6 ((own_sel p2 fz (4 : Int32)) + (0 : Int32))))) (by rw [e12]; exact Ar13.1) (State.isArrayOf_alike hZ.alike Ar13.2.1) Ar13.2.2 hin14 hat15 (g := (mkF m 40 #[vR a1, vI p2, vR a3, vI (own_sel p2 fz (4 : Int32)), vI 0] [iI ((own_sel p2 fz (4 : Int32)) + (0 : Int32)), iR al])) rfl rfl (hb hby d7_40) _ ?_
      show Steps _ _ _ (T12.setTop (mkF m 41 #[vR a1, vI p2, vR a3, vI (own_sel p2 fz (4 : Int32)), vI 0] [iI (own_at x0 x1 x2 x3 x4 x5 x6 ((own_sel p2 fz (4 : Int32)) + (0 : Int32)))])) _
      refine XS.aloadN X12.here hx rfl (hb hby d7_41) rfl rfl ?_
      show Steps _ _ _ (T12.setTop (mkF m 42 #[vR a1, vI p2, vR a3, vI (own_sel p2 fz (4 : Int32)), vI 0] [iR a3, iI (own_at x0 x1 x2 x3 x4 x5 x6 ((own_sel p2 fz (4 : Int32)) + (0 : Int32)))])) _
      refine XS.iload X12.here hx rfl (hb hby d7_42) rfl ?_
      show Steps _ _ _ (T12.setTop (mkF m 44 #[vR a1, vI p2, vR a3, vI (own_sel p2 fz (4 : Int32)), vI 0] [iI 0, iR a3, iI (own_at x0 x1 x2 x3 x4 x5 x6 ((own_sel p2 fz (4 : Int32)) + (0 : Int32)))])) _
      refine X12.baloadBytes hx (j := (0 : Int32)) (v := (.int y0)) (by rw [e12]; exact Ar9.1) (State.isArrayOf_alike hZ.alike Ar9.2.1) Ar9.2.2 hin16 hat17 (g := (mkF m 44 #[vR a1, vI p2, vR a3, vI (own_sel p2 fz (4 : Int32)), vI 0] [iI 0, iR a3, iI (own_at x0 x1 x2 x3 x4 x5 x6 ((own_sel p2 fz (4 : Int32)) + (0 : Int32)))])) rfl rfl (hb hby d7_44) _ ?_
      exact kt
    by_cases hc18 : (own_at x0 x1 x2 x3 x4 x5 x6 ((own_sel p2 fz (4 : Int32)) + (0 : Int32))) = y0
    · obtain ⟨fs, hr, hrun, hended, hW, hsame⟩ := X12.leave (v := some (.int (1 : Int32))) (fun h => by rw [Bd.returns] at h; cases h)
      refine ⟨_, _, pre19 _ ?_, hrun, hended, _, _, rfl, ?_, ⟨_, rfl⟩, hW, hsame.mono (by decide) (by decide)⟩
      · show Steps _ _ _ (T12.setTop (mkF m 45 #[vR a1, vI p2, vR a3, vI (own_sel p2 fz (4 : Int32)), vI 0] [iI y0, iI (own_at x0 x1 x2 x3 x4 x5 x6 ((own_sel p2 fz (4 : Int32)) + (0 : Int32)))])) _
        refine XS.icmpYes X12.here hx rfl (pc0 := 45) (pc' := 50) rfl (hb hby d7_45) rfl (teq hc18).1 (by decide) (by decide) ?_
        show Steps _ _ _ (T12.setTop (mkF m 50 #[vR a1, vI p2, vR a3, vI (own_sel p2 fz (4 : Int32)), vI 0] [])) _
        refine XS.iinc X12.here hx rfl (hb hby d7_50) rfl (l' := #[vR a1, vI p2, vR a3, vI (own_sel p2 fz (4 : Int32)), vI ((0 : Int32) + (1 : Int32))]) rfl ?_
        rw [(by decide : ((0 : Int32) + (1 : Int32)) = (1 : Int32))]
        show Steps _ _ _ (T12.setTop (mkF m 53 #[vR a1, vI p2, vR a3, vI (own_sel p2 fz (4 : Int32)), vI 1] [])) _
        refine XS.goto X12.here hx rfl (pc0 := 53) (pc' := 25) rfl (hb hby d7_53) (by decide) (by decide) ?_
        show Steps _ _ _ (T12.setTop (mkF m 25 #[vR a1, vI p2, vR a3, vI (own_sel p2 fz (4 : Int32)), vI 1] [])) _
        refine XS.iload X12.here hx rfl (hb hby d7_25) rfl ?_
        show Steps _ _ _ (T12.setTop (mkF m 27 #[vR a1, vI p2, vR a3, vI (own_sel p2 fz (4 : Int32)), vI 1] [iI 1])) _
        refine XS.aloadN X12.here hx rfl (hb hby d7_27) rfl rfl ?_
        show Steps _ _ _ (T12.setTop (mkF m 28 #[vR a1, vI p2, vR a3, vI (own_sel p2 fz (4 : Int32)), vI 1] [iR a3, iI 1])) _
        refine X12.arraylength hx (by rw [e12]; exact Ar9.1) (State.isArrayOf_alike hZ.alike Ar9.2.1) (g := (mkF m 28 #[vR a1, vI p2, vR a3, vI (own_sel p2 fz (4 : Int32)), vI 1] [iR a3, iI 1])) rfl rfl (hb hby d7_28) _ ?_
        rw [len_of S9 M9]
        show Steps _ _ _ (T12.setTop (mkF m 29 #[vR a1, vI p2, vR a3, vI (own_sel p2 fz (4 : Int32)), vI 1] [iI 1, iI 1])) _
        refine XS.icmpYes X12.here hx rfl (pc0 := 29) (pc' := 56) rfl (hb hby d7_29) rfl (flt (by decide : ¬ ((1 : Int32) < (1 : Int32)))).2.1 (by decide) (by decide) ?_
        show Steps _ _ _ (T12.setTop (mkF m 56 #[vR a1, vI p2, vR a3, vI (own_sel p2 fz (4 : Int32)), vI 1] [])) _
        refine XS.iconst X12.here hx rfl (hb hby d7_56) ?_
        show Steps _ _ _ (T12.setTop (mkF m 57 #[vR a1, vI p2, vR a3, vI (own_sel p2 fz (4 : Int32)), vI 1] [iI 1])) _
        exact retN X12 hx (t := .boolean) Bd.returns (by simp) (hb hby d7_57) hr
      · show Q7_1 Z a1 p2 a3 s1 s2 al k1 k2 kl ke fz tz x0 x1 x2 x3 x4 x5 x6 y0 h0 _ T12.heap _
        rw [e12]
        exact ⟨by first | rfl | (simp only [own_is_1, if_pos hc10, if_pos hc18]; done) | (simp only [own_is_1, if_pos hc10, if_pos hc18]; rfl) | (simp only [own_is_1, if_pos hc10, if_pos hc18, nar] ; first | rfl | (simp; done) | decide), rfl, rfl⟩
    · obtain ⟨fs, hr, hrun, hended, hW, hsame⟩ := X12.leave (v := some (.int (0 : Int32))) (fun h => by rw [Bd.returns] at h; cases h)
      refine ⟨_, _, pre19 _ ?_, hrun, hended, _, _, rfl, ?_, ⟨_, rfl⟩, hW, hsame.mono (by decide) (by decide)⟩
      · show Steps _ _ _ (T12.setTop (mkF m 45 #[vR a1, vI p2, vR a3, vI (own_sel p2 fz (4 : Int32)), vI 0] [iI y0, iI (own_at x0 x1 x2 x3 x4 x5 x6 ((own_sel p2 fz (4 : Int32)) + (0 : Int32)))])) _
        refine XS.icmpNo X12.here hx rfl (hb hby d7_45) rfl (feq hc18).1 ?_
        show Steps _ _ _ (T12.setTop (mkF m 48 #[vR a1, vI p2, vR a3, vI (own_sel p2 fz (4 : Int32)), vI 0] [])) _
        refine XS.iconst X12.here hx rfl (hb hby d7_48) ?_
        show Steps _ _ _ (T12.setTop (mkF m 49 #[vR a1, vI p2, vR a3, vI (own_sel p2 fz (4 : Int32)), vI 0] [iI 0])) _
        exact retN X12 hx (t := .boolean) Bd.returns (by simp) (hb hby d7_49) hr
      · show Q7_1 Z a1 p2 a3 s1 s2 al k1 k2 kl ke fz tz x0 x1 x2 x3 x4 x5 x6 y0 h0 _ T12.heap _
        rw [e12]
        exact ⟨by first | rfl | (simp only [own_is_1, if_pos hc10, if_neg hc18]; done) | (simp only [own_is_1, if_pos hc10, if_neg hc18]; rfl) | (simp only [own_is_1, if_pos hc10, if_neg hc18, nar] ; first | rfl | (simp; done) | decide), rfl, rfl⟩
  · obtain ⟨fs, hr, hrun, hended, hW, hsame⟩ := X5.leave (v := some (.int (0 : Int32))) (fun h => by rw [Bd.returns] at h; cases h)
    refine ⟨_, _, pre11 _ ?_, hrun, hended, _, _, rfl, ?_, ⟨_, rfl⟩, hW, hsame.mono (by decide) (by decide)⟩
    · show Steps _ _ _ (T5.setTop (mkF m 17 #[vR a1, vI p2, vR a3, vI (own_sel p2 fz (4 : Int32)), .unset] [iI 1, iI ((own_sel p2 (3 : Int32) tz) - (own_sel p2 fz (4 : Int32)))])) _
      refine XS.icmpNo X5.here hx rfl (hb hby d7_17) rfl (feq hc10).1 ?_
      show Steps _ _ _ (T5.setTop (mkF m 20 #[vR a1, vI p2, vR a3, vI (own_sel p2 fz (4 : Int32)), .unset] [])) _
      refine XS.iconst X5.here hx rfl (hb hby d7_20) ?_
      show Steps _ _ _ (T5.setTop (mkF m 21 #[vR a1, vI p2, vR a3, vI (own_sel p2 fz (4 : Int32)), .unset] [iI 0])) _
      exact retN X5 hx (t := .boolean) Bd.returns (by simp) (hb hby d7_21) hr
    · show Q7_1 Z a1 p2 a3 s1 s2 al k1 k2 kl ke fz tz x0 x1 x2 x3 x4 x5 x6 y0 h0 _ T5.heap _
      rw [e5]
      exact ⟨by first | rfl | (simp only [own_is_1, if_neg hc10]; done) | (simp only [own_is_1, if_neg hc10]; rfl) | (simp only [own_is_1, if_neg hc10, nar] ; first | rfl | (simp; done) | decide), rfl, rfl⟩
def own_is_2 (p2 : Int32) (fz tz : Int32) (x0 : Int32) (x1 : Int32) (x2 : Int32) (x3 : Int32) (x4 : Int32) (x5 : Int32) (x6 : Int32) (y0 : Int32) (y1 : Int32) : Int32 := (if ((own_sel p2 (3 : Int32) tz) - (own_sel p2 fz (4 : Int32))) = (2 : Int32) then (if (own_at x0 x1 x2 x3 x4 x5 x6 ((own_sel p2 fz (4 : Int32)) + (0 : Int32))) = y0 then (if (own_at x0 x1 x2 x3 x4 x5 x6 ((own_sel p2 fz (4 : Int32)) + (1 : Int32))) = y1 then (1 : Int32) else (0 : Int32)) else (0 : Int32)) else (0 : Int32))
theorem ef_7_2 (m : MethodId) (x0 : Addr) (x1 : Int32) (x2 : Addr) : entryFrame m #[(.ref x0), (.int x1), (.ref x2)] 5 = mkF m 0 #[.val (.ref x0), .val (.int x1), .val (.ref x2), .unset, .unset] [] := by first | (simp [entryFrame, mkF, argsToLocals, Value.category]; done) | rfl
def Q7_2 (Z : State) (a1 : Addr) (p2 : Int32) (a3 : Addr) (s1 s2 al : Addr) (k1 k2 kl ke : ClassId) (fz tz : Int32) (x0 : Int32) (x1 : Int32) (x2 : Int32) (x3 : Int32) (x4 : Int32) (x5 : Int32) (x6 : Int32) (y0 : Int32) (y1 : Int32) (h0 : Heap) (v : Option Value) (h : Heap) (L : List Loc) : Prop := v = some (.int (own_is_2 p2 fz tz x0 x1 x2 x3 x4 x5 x6 y0 y1)) ∧ L = [] ∧ h = h0
set_option maxRecDepth 65536 in
set_option maxHeartbeats 40000000 in
theorem rm7_2 (l : Launch) (Z : State) (a0 : Array Value) (hw : ∀ d ∈ tables_1, d.before a0 Z = true) (ws : List Jvm.Cond) (a1 : Addr) (p2 : Int32) (a3 : Addr) (s1 s2 al : Addr) (k1 k2 kl ke : ClassId) (fz tz : Int32) (x0 : Int32) (x1 : Int32) (x2 : Int32) (x3 : Int32) (x4 : Int32) (x5 : Int32) (x6 : Int32) (y0 : Int32) (y1 : Int32) (h0 : Heap) (F_line : Fld Z h0 a1 "com/example/tidemine/tidemine/TextFormat$Tokens" "line" "[B" (.ref al)) (F_starts : Fld Z h0 a1 "com/example/tidemine/tidemine/TextFormat$Tokens" "starts" "[I" (.ref s1)) (F_ends : Fld Z h0 a1 "com/example/tidemine/tidemine/TextFormat$Tokens" "ends" "[I" (.ref s2)) (V_1 : Arv Z h0 s1 k1 .int (16 : Int32) [(.int fz), (.int (4 : Int32)), (.int (0 : Int32)), (.int (0 : Int32)), (.int (0 : Int32)), (.int (0 : Int32)), (.int (0 : Int32)), (.int (0 : Int32)), (.int (0 : Int32)), (.int (0 : Int32)), (.int (0 : Int32)), (.int (0 : Int32)), (.int (0 : Int32)), (.int (0 : Int32)), (.int (0 : Int32)), (.int (0 : Int32))] (.int (0 : Int32))) (V_2 : Arv Z h0 s2 k2 .int (16 : Int32) [(.int (3 : Int32)), (.int tz), (.int (0 : Int32)), (.int (0 : Int32)), (.int (0 : Int32)), (.int (0 : Int32)), (.int (0 : Int32)), (.int (0 : Int32)), (.int (0 : Int32)), (.int (0 : Int32)), (.int (0 : Int32)), (.int (0 : Int32)), (.int (0 : Int32)), (.int (0 : Int32)), (.int (0 : Int32)), (.int (0 : Int32))] (.int (0 : Int32))) (V_l : Arv Z h0 al kl .byte (7 : Int32) [(.int x0), (.int x1), (.int x2), (.int x3), (.int x4), (.int x5), (.int x6)] (.int (0 : Int32))) (V_e : Arv Z h0 a3 ke .byte (2 : Int32) [(.int y0), (.int y1)] (.int (0 : Int32))) (qp : p2 = 0 ∨ p2 = 1) (qf : fz = 0 ∨ fz = 1 ∨ fz = 2) (qt : tz = 5 ∨ tz = 6 ∨ tz = 7) :
    MetFree l (⟨"com/example/tidemine/tidemine/TextFormat$Tokens", "is", "(I[B)Z"⟩ : MethodName) (head1 (Jvm.Cond.code (⟨"com/example/tidemine/tidemine/TextFormat$Tokens", "is", "(I[B)Z"⟩ : MethodName) prog_41_method_7_code 5 (some .boolean) :: ws) ({ frames := 0, cells := 0, slots := 0, locals := 0 } : Room)) (fun a U => a = #[(.ref a1), (.int p2), (.ref a3)] ∧ Z.Warmed39 U.vm ∧ U.heap = h0) (fun _ _ _ _ _ => True) (fun _ U o U' => ∃ v L, o = .returned v ∧ Q7_2 Z a1 p2 a3 s1 s2 al k1 k2 kl ke fz tz x0 x1 x2 x3 x4 x5 x6 y0 y1 h0 v U'.heap L ∧ FrameEnd U o U' L ({ frames := 0, cells := 0, slots := 0, locals := 0 } : Room).cells ({ frames := 0, cells := 0, slots := 0, locals := 0 } : Room).slots) := by
  refine MetFree.of_bodySF (plainFor_of_name pn_2) hisR ?_
  intro p e s m args below meth c s₁ Bd hml0 hP hK
  obtain ⟨rfl, hZ, hh⟩ := hP
  have hx := Bd.exec
  have hby := Bd.bytes
  have hml : c.maxLocals = 5 := hml0
  have hown : s.vm.findClass "com/example/tidemine/tidemine/TextFormat$Tokens" = some m.cls := findClass_of_methodNamed Bd.named
  have hnm := (name_of_methodNamed Bd.named Bd.method).1
  have X0 : Stand p l e ({ frames := 0, cells := 0, slots := 0, locals := 0 } : Room) s m #[(.ref a1), (.int p2), (.ref a3)] below meth c s₁ [] 0 0 := Stand.of_body Bd
  have e0 : s₁.heap = h0 := by rw [← hh, Bd.state]; rfl
  have pre0 : ∀ t, Steps p.tables e below (s₁.setTop (mkF m 0 #[.val (.ref a1), .val (.int p2), .val (.ref a3), .unset, .unset] [])) t → Steps p.tables e below (s₁.setTop (entryFrame m #[(.ref a1), (.int p2), (.ref a3)] 5)) t := fun t k => castTop (ef_7_2 m a1 p2 a3) k
  obtain ⟨T1, X1, e1, st1⟩ := getF X0 hx hZ hown (host := "") (Or.inl (hw _ (List.mem_of_getElem? (i := 19) rfl))) Via.refl e0 F_starts (g := (mkF m 1 #[vR a1, vI p2, vR a3, .unset, .unset] [iR a1])) rfl rfl (hb hby d7_1)
  obtain ⟨cl2, Ar2, q2, S2, M2, H2, G2⟩ := id V_1
  have hin3 : ¬ (p2 < 0 ∨ cl2.slots.size ≤ (p2).toNatClampNeg) := inb_of S2 (own_in16 qp)
  have hat4 : cl2.slots[(p2).toNatClampNeg]? = some (.int (own_sel p2 fz (4 : Int32))) := Has.at H2 hin3 (own_selL qp rfl rfl)
  obtain ⟨T5, X5, e5, st5⟩ := getF X1 hx hZ hown (host := "") (Or.inl (hw _ (List.mem_of_getElem? (i := 21) rfl))) Via.refl e1 F_ends (g := (mkF m 8 #[vR a1, vI p2, vR a3, vI (own_sel p2 fz (4 : Int32)), .unset] [iR a1])) rfl rfl (hb hby d7_8)
  obtain ⟨cl6, Ar6, q6, S6, M6, H6, G6⟩ := id V_2
  have hin7 : ¬ (p2 < 0 ∨ cl6.slots.size ≤ (p2).toNatClampNeg) := inb_of S6 (own_in16 qp)
  have hat8 : cl6.slots[(p2).toNatClampNeg]? = some (.int (own_sel p2 (3 : Int32) tz)) := Has.at H6 hin7 (own_selL qp rfl rfl)
  obtain ⟨cl9, Ar9, q9, S9, M9, H9, G9⟩ := id V_e
  have pre11 : ∀ t, Steps p.tables e below (T5.setTop (mkF m 17 #[vR a1, vI p2, vR a3, vI (own_sel p2 fz (4 : Int32)), .unset] [iI 2, iI ((own_sel p2 (3 : Int32) tz) - (own_sel p2 fz (4 : Int32)))])) t → Steps p.tables e below (s₁.setTop (entryFrame m #[(.ref a1), (.int p2), (.ref a3)] 5)) t := by
    intro t kt
    refine pre0 t ?_
    show Steps _ _ _ (s₁.setTop (mkF m 0 #[vR a1, vI p2, vR a3, .unset, .unset] [])) _
    refine XS.aloadN X0.here hx rfl (hb hby d7_0) rfl rfl ?_
    show Steps _ _ _ (s₁.setTop (mkF m 1 #[vR a1, vI p2, vR a3, .unset, .unset] [iR a1])) _
    refine st1 _ ?_
    show Steps _ _ _ (T1.setTop (mkF m 4 #[vR a1, vI p2, vR a3, .unset, .unset] [iR s1])) _
    refine XS.iloadN X1.here hx rfl (hb hby d7_4) rfl ?_
    show Steps _ _ _ (T1.setTop (mkF m 5 #[vR a1, vI p2, vR a3, .unset, .unset] [iI p2, iR s1])) _
    refine X1.iaload hx (j := p2) (v := (.int (own_sel p2 fz (4 : Int32)))) (by rw [e1]; exact Ar2.1) (State.isArrayOf_alike hZ.alike Ar2.2.1) Ar2.2.2 hin3 hat4 (g := (mkF m 5 #[vR a1, vI p2, vR a3, .unset, .unset] [iI p2, iR s1])) rfl rfl (hb hby d7_5) _ ?_
    show Steps _ _ _ (T1.setTop (mkF m 6 #[vR a1, vI p2, vR a3, .unset, .unset] [iI (own_sel p2 fz (4 : Int32))])) _
    refine XS.istoreN X1.here hx rfl (hb hby d7_6) rfl (l' := #[vR a1, vI p2, vR a3, vI (own_sel p2 fz (4 : Int32)), .unset]) rfl ?_
    show Steps _ _ _ (T1.setTop (mkF m 7 #[vR a1, vI p2, vR a3, vI (own_sel p2 fz (4 : Int32)), .unset] [])) _
    refine XS.aloadN X1.here hx rfl (hb hby d7_7) rfl rfl ?_
    show Steps _ _ _ (T1.setTop (mkF m 8 #[vR a1, vI p2, vR a3, vI (own_sel p2 fz (4 : Int32)), .unset] [iR a1])) _
    refine st5 _ ?_
    show Steps _ _ _ (T5.setTop (mkF m 11 #[vR a1, vI p2, vR a3, vI (own_sel p2 fz (4 : Int32)), .unset] [iR s2])) _
    refine XS.iloadN X5.here hx rfl (hb hby d7_11) rfl ?_
    show Steps _ _ _ (T5.setTop (mkF m 12 #[vR a1, vI p2, vR a3, vI (own_sel p2 fz (4 : Int32)), .unset] [iI p2, iR s2])) _
    refine X5.iaload hx (j := p2) (v := (.int (own_sel p2 (3 : Int32) tz))) (by rw [e5]; exact Ar6.1) (State.isArrayOf_alike hZ.alike Ar6.2.1) Ar6.2.2 hin7 hat8 (g := (mkF m 12 #[vR a1, vI p2, vR a3, vI (own_sel p2 fz (4 : Int32)), .unset] [iI p2, iR s2])) rfl rfl (hb hby d7_12) _ ?_
    show Steps _ _ _ (T5.setTop (mkF m 13 #[vR a1, vI p2, vR a3, vI (own_sel p2 fz (4 : Int32)), .unset] [iI (own_sel p2 (3 : Int32) tz)])) _
    refine XS.iloadN X5.here hx rfl (hb hby d7_13) rfl ?_
    show Steps _ _ _ (T5.setTop (mkF m 14 #[vR a1, vI p2, vR a3, vI (own_sel p2 fz (4 : Int32)), .unset] [iI (own_sel p2 fz (4 : Int32)), iI (own_sel p2 (3 : Int32) tz)])) _
    refine XS.isub X5.here hx rfl (hb hby d7_14) rfl ?_
    show Steps _ _ _ (T5.setTop (mkF m 15 #[vR a1, vI p2, vR a3, vI (own_sel p2 fz (4 : Int32)), .unset] [iI ((own_sel p2 (3 : Int32) tz) - (own_sel p2 fz (4 : Int32)))])) _
    refine XS.aloadN X5.here hx rfl (hb hby d7_15) rfl rfl ?_
    show Steps _ _ _ (T5.setTop (mkF m 16 #[vR a1, vI p2, vR a3, vI (own_sel p2 fz (4 : Int32)), .unset] [iR a3, iI ((own_sel p2 (3 : Int32) tz) - (own_sel p2 fz (4 : Int32)))])) _
    refine X5.arraylength hx (by rw [e5]; exact Ar9.1) (State.isArrayOf_alike hZ.alike Ar9.2.1) (g := (mkF m 16 #[vR a1, vI p2, vR a3, vI (own_sel p2 fz (4 : Int32)), .unset] [iR a3, iI ((own_sel p2 (3 : Int32) tz) - (own_sel p2 fz (4 : Int32)))])) rfl rfl (hb hby d7_16) _ ?_
    rw [len_of S9 M9]
    exact kt
  by_cases hc10 : ((own_sel p2 (3 : Int32) tz) - (own_sel p2 fz (4 : Int32))) = (2 : Int32)
  · obtain ⟨T12, X12, e12, st12⟩ := getF X5 hx hZ hown (host := "") (Or.inl (hw _ (List.mem_of_getElem? (i := 28) rfl))) Via.refl e5 F_line (g := (mkF m 33 #[vR a1, vI p2, vR a3, vI (own_sel p2 fz (4 : Int32)), vI 0] [iR a1])) rfl rfl (hb hby d7_33)
    obtain ⟨cl13, Ar13, q13, S13, M13, H13, G13⟩ := id V_l
    have hin14 : ¬ (((own_sel p2 fz (4 : Int32)) + (0 : Int32)) < 0 ∨ cl13.slots.size ≤ (((own_sel p2 fz (4 : Int32)) + (0 : Int32))).toNatClampNeg) := inb_of S13 (own_inb2_0 qp qf qt hc10)
    have hat15 : cl13.slots[(((own_sel p2 fz (4 : Int32)) + (0 : Int32))).toNatClampNeg]? = some (.int (own_at x0 x1 x2 x3 x4 x5 x6 ((own_sel p2 fz (4 : Int32)) + (0 : Int32)))) := Has.at H13 hin14 (own_atL (own_inb2_0 qp qf qt hc10))
    have hin16 : ¬ ((0 : Int32) < 0 ∨ cl9.slots.size ≤ ((0 : Int32)).toNatClampNeg) := inb_of S9 ⟨by decide, by decide⟩
    have hat17 : cl9.slots[((0 : Int32)).toNatClampNeg]? = some (.int y0) := Has.at H9 hin16 rfl
    have pre19 : ∀ t, Steps p.tables e below (T12.setTop (mkF m 45 #[vR a1, vI p2, vR a3, vI (own_sel p2 fz (4 : Int32)), vI 0] [iI y0, iI (own_at x0 x1 x2 x3 x4 x5 x6 ((own_sel p2 fz (4 : Int32)) + (0 : Int32)))])) t → Steps p.tables e below (s₁.setTop (entryFrame m #[(.ref a1), (.int p2), (.ref a3)] 5)) t := by
      intro t kt
      refine pre11 t ?_
      show Steps _ _ _ (T5.setTop (mkF m 17 #[vR a1, vI p2, vR a3, vI (own_sel p2 fz (4 : Int32)), .unset] [iI 2, iI ((own_sel p2 (3 : Int32) tz) - (own_sel p2 fz (4 : Int32)))])) _
      refine XS.icmpYes X5.here hx rfl (pc0 := 17) (pc' := 22) rfl (hb hby d7_17) rfl (teq hc10).1 (by decide) (by decide) ?_
      show Steps _ _ _ (T5.setTop (mkF m 22 #[vR a1, vI p2, vR a3, vI (own_sel p2 fz (4 : Int32)), .unset] [])) _
      refine XS.iconst X5.here hx rfl (hb hby d7_22) ?_
      show Steps _ _ _ (T5.setTop (mkF m 23 #[vR a1, vI p2, vR a3, vI (own_sel p2 fz (4 : Int32)), .unset] [iI 0])) _
      refine XS.istore X5.here hx rfl (hb hby d7_23) rfl (l' := #[vR a1, vI p2, vR a3, vI (own_sel p2 fz (4 : Int32)), vI 0]) rfl ?_
      show Steps _ _ _ (T5.setTop (mkF m 25 #[vR a1, vI p2, vR a3, vI (own_sel p2 fz (4 : Int32)), vI 0] [])) _
      refine XS.iload X5.here hx rfl (hb hby d7_25) rfl ?_
      show Steps _ _ _ (T5.setTop (mkF m 27 #[vR a1, vI p2, vR a3, vI (own_sel p2 fz (4 : Int32)), vI 0] [iI 0])) _
      refine XS.aloadN X5.here hx rfl (hb hby d7_27) rfl rfl ?_
      show Steps _ _ _ (T5.setTop (mkF m 28 #[vR a1, vI p2, vR a3, vI (own_sel p2 fz (4 : Int32)), vI 0] [iR a3, iI 0])) _
      refine X5.arraylength hx (by rw [e5]; exact Ar9.1) (State.isArrayOf_alike hZ.alike Ar9.2.1) (g := (mkF m 28 #[vR a1, vI p2, vR a3, vI (own_sel p2 fz (4 : Int32)), vI 0] [iR a3, iI 0])) rfl rfl (hb hby d7_28) _ ?_
      rw [len_of S9 M9]
      show Steps _ _ _ (T5.setTop (mkF m 29 #[vR a1, vI p2, vR a3, vI (own_sel p2 fz (4 : Int32)), vI 0] [iI 2, iI 0])) _
      refine XS.icmpNo X5.here hx rfl (hb hby d7_29) rfl (tlt (by decide : (0 : Int32) < (2 : Int32))).2.1 ?_
      show Steps _ _ _ (T5.setTop (mkF m 32 #[vR a1, vI p2, vR a3, vI (own_sel p2 fz (4 : Int32)), vI 0] [])) _
      refine XS.aloadN X5.here hx rfl (hb hby d7_32) rfl rfl ?_
      show Steps _ _ _ (T5.setTop (mkF m 33 #[vR a1, vI p2, vR a3, vI (own_sel p2 fz (4 : Int32)), vI 0] [iR a1])) _
      refine st12 _ ?_
      show Steps _ _ _ (T12.setTop (mkF m 36 #[vR a1, vI p2, vR a3, vI (own_sel p2 fz (4 : Int32)), vI 0] [iR al])) _
      refine XS.iloadN X12.here hx rfl (hb hby d7_36) rfl ?_
      show Steps _ _ _ (T12.setTop (mkF m 37 #[vR a1, vI p2, vR a3, vI (own_sel p2 fz (4 : Int32)), vI 0] [iI (own_sel p2 fz (4 : Int32)), iR al])) _
      refine XS.iload X12.here hx rfl (hb hby d7_37) rfl ?_
      show Steps _ _ _ (T12.setTop (mkF m 39 #[vR a1, vI p2, vR a3, vI (own_sel p2 fz (4 : Int32)), vI 0] [iI 0, iI (own_sel p2 fz (4 : Int32)), iR al])) _
      refine XS.iadd X12.here hx rfl (hb hby d7_39) rfl ?_
      show Steps _ _ _ (T12.setTop (mkF m 40 #[vR a1, vI p2, vR a3, vI (own_sel p2 fz (4 : Int32)), vI 0] [iI ((own_sel p2 fz (4 : Int32)) + (0 : Int32)), iR al])) _
      refine X12.baloadBytes hx (j := ((own_sel p2 fz (4 : Int32)) + (0 : Int32))) (v := (.int (own_at x0 x1 x2 x3 x4 x5 x6 ((own_sel p2 fz (4 : Int32)) + (0 : Int32))))) (by rw [e12]; exact Ar13.1) (State.isArrayOf_alike hZ.alike Ar13.2.1) Ar13.2.2 hin14 hat15 (g := (mkF m 40 #[vR a1, vI p2, vR a3, vI (own_sel p2 fz (4 : Int32)), vI 0] [iI ((own_sel p2 fz (4 : Int32)) + (0 : Int32)), iR al])) rfl rfl (hb hby d7_40) _ ?_
      show Steps _ _ _ (T12.setTop (mkF m 41 #[vR a1, vI p2, vR a3, vI (own_sel p2 fz (4 : Int32)), vI 0] [iI (own_at x0 x1 x2 x3 x4 x5 x6 ((own_sel p2 fz (4 : Int32)) + (0 : Int32)))])) _
      refine XS.aloadN X12.here hx rfl (hb hby d7_41) rfl rfl ?_
      show Steps _ _ _ (T12.setTop (mkF m 42 #[vR a1, vI p2, vR a3, vI (own_sel p2 fz (4 : Int32)), vI 0] [iR a3, iI (own_at x0 x1 x2 x3 x4 x5 x6 ((own_sel p2 fz (4 : Int32)) + (0 : Int32)))])) _
      refine XS.iload X12.here hx rfl (hb hby d7_42) rfl ?_
      show Steps _ _ _ (T12.setTop (mkF m 44 #[vR a1, vI p2, vR a3, vI (own_sel p2 fz (4 : Int32)), vI 0] [iI 0, iR a3, iI (own_at x0 x1 x2 x3 x4 x5 x6 ((own_sel p2 fz (4 : Int32)) + (0 : Int32)))])) _
      refine X12.baloadBytes hx (j := (0 : Int32)) (v := (.int y0)) (by rw [e12]; exact Ar9.1) (State.isArrayOf_alike hZ.alike Ar9.2.1) Ar9.2.2 hin16 hat17 (g := (mkF m 44 #[vR a1, vI p2, vR a3, vI (own_sel p2 fz (4 : Int32)), vI 0] [iI 0, iR a3, iI (own_at x0 x1 x2 x3 x4 x5 x6 ((own_sel p2 fz (4 : Int32)) + (0 : Int32)))])) rfl rfl (hb hby d7_44) _ ?_
      exact kt
    by_cases hc18 : (own_at x0 x1 x2 x3 x4 x5 x6 ((own_sel p2 fz (4 : Int32)) + (0 : Int32))) = y0
    · obtain ⟨T20, X20, e20, st20⟩ := getF X12 hx hZ hown (host := "") (Or.inl (hw _ (List.mem_of_getElem? (i := 28) rfl))) Via.refl e12 F_line (g := (mkF m 33 #[vR a1, vI p2, vR a3, vI (own_sel p2 fz (4 : Int32)), vI 1] [iR a1])) rfl rfl (hb hby d7_33)
      have hin21 : ¬ (((own_sel p2 fz (4 : Int32)) + (1 : Int32)) < 0 ∨ cl13.slots.size ≤ (((own_sel p2 fz (4 : Int32)) + (1 : Int32))).toNatClampNeg) := inb_of S13 (own_inb2_1 qp qf qt hc10)
      have hat22 : cl13.slots[(((own_sel p2 fz (4 : Int32)) + (1 : Int32))).toNatClampNeg]? = some (.int (own_at x0 x1 x2 x3 x4 x5 x6 ((own_sel p2 fz (4 : Int32)) + (1 : Int32)))) := Has.at H13 hin21 (own_atL (own_inb2_1 qp qf qt hc10))
      have hin23 : ¬ ((1 : Int32) < 0 ∨ cl9.slots.size ≤ ((1 : Int32)).toNatClampNeg) := inb_of S9 ⟨by decide, by decide⟩
      have hat24 : cl9.slots[((1 : Int32)).toNatClampNeg]? = some (.int y1) := Has.at H9 hin23 rfl
      have pre26 : ∀ t, Steps p.tables e below (T20.setTop (mkF m 45 #[vR a1, vI p2, vR a3, vI (own_sel p2 fz (4 : Int32)), vI 1] [iI y1, iI (own_at x0 x1 x2 x3 x4 x5 x6 ((own_sel p2 fz (4 : Int32)) + (1 : Int32)))])) t → Steps p.tables e below (s₁.setTop (entryFrame m #[(.ref a1), (.int p2), (.ref a3)] 5)) t := by
        intro t kt
        refine pre19 t ?_
        show Steps _ _ _ (T12.setTop (mkF m 45 #[vR a1, vI p2, vR a3, vI (own_sel p2 fz (4 : Int32)), vI 0] [iI y0, iI (own_at x0 x1 x2 x3 x4 x5 x6 ((own_sel p2 fz (4 : Int32)) + (0 : Int32)))])) _
        refine XS.icmpYes X12.here hx rfl (pc0 := 45) (pc' := 50) rfl (hb hby d7_45) rfl (teq hc18).1 (by decide) (by decide) ?_
        show Steps _ _ _ (T12.setTop (mkF m 50 #[vR a1, vI p2, vR a3, vI (own_sel p2 fz (4 : Int32)), vI 0] [])) _
        refine XS.iinc X12.here hx rfl (hb hby d7_50) rfl (l' := #[vR a1, vI p2, vR a3, vI (own_sel p2 fz (4 : Int32)), vI ((0 : Int32) + (1 : Int32))]) rfl ?_
        rw [(by decide : ((0 : Int32) + (1 : Int32)) = (1 : Int32))]
        show Steps _ _ _ (T12.setTop (mkF m 53 #[vR a1, vI p2, vR a3, vI (own_sel p2 fz (4 : Int32)), vI 1] [])) _
        refine XS.goto X12.here hx rfl (pc0 := 53) (pc' := 25) rfl (hb hby d7_53) (by decide) (by decide) ?_
        show Steps _ _ _ (T12.setTop (mkF m 25 #[vR a1, vI p2, vR a3, vI (own_sel p2 fz (4 : Int32)), vI 1] [])) _
        refine XS.iload X12.here hx rfl (hb hby d7_25) rfl ?_
        show Steps _ _ _ (T12.setTop (mkF m 27 #[vR a1, vI p2, vR a3, vI (own_sel p2 fz (4 : Int32)), vI 1] [iI 1])) _
        refine XS.aloadN X12.here hx rfl (hb hby d7_27) rfl rfl ?_
        show Steps _ _ _ (T12.setTop (mkF m 28 #[vR a1, vI p2, vR a3, vI (own_sel p2 fz (4 : Int32)), vI 1] [iR a3, iI 1])) _
        refine X12.arraylength hx (by rw [e12]; exact Ar9.1) (State.isArrayOf_alike hZ.alike Ar9.2.1) (g := (mkF m 28 #[vR a1, vI p2, vR a3, vI (own_sel p2 fz (4 : Int32)), vI 1] [iR a3, iI 1])) rfl rfl (hb hby d7_28) _ ?_
        rw [len_of S9 M9]
        show Steps _ _ _ (T12.setTop (mkF m 29 #[vR a1, vI p2, vR a3, vI (own_sel p2 fz (4 : Int32)), vI 1] [iI 2, iI 1])) _
        refine XS.icmpNo X12.here hx rfl (hb hby d7_29) rfl (tlt (by decide : (1 : Int32) < (2 : Int32))).2.1 ?_
        show Steps _ _ _ (T12.setTop (mkF m 32 #[vR a1, vI p2, vR a3, vI (own_sel p2 fz (4 : Int32)), vI 1] [])) _
        refine XS.aloadN X12.here hx rfl (hb hby d7_32) rfl rfl ?_
        show Steps _ _ _ (T12.setTop (mkF m 33 #[vR a1, vI p2, vR a3, vI (own_sel p2 fz (4 : Int32)), vI 1] [iR a1])) _
        refine st20 _ ?_
        show Steps _ _ _ (T20.setTop (mkF m 36 #[vR a1, vI p2, vR a3, vI (own_sel p2 fz (4 : Int32)), vI 1] [iR al])) _
        refine XS.iloadN X20.here hx rfl (hb hby d7_36) rfl ?_
        show Steps _ _ _ (T20.setTop (mkF m 37 #[vR a1, vI p2, vR a3, vI (own_sel p2 fz (4 : Int32)), vI 1] [iI (own_sel p2 fz (4 : Int32)), iR al])) _
        refine XS.iload X20.here hx rfl (hb hby d7_37) rfl ?_
        show Steps _ _ _ (T20.setTop (mkF m 39 #[vR a1, vI p2, vR a3, vI (own_sel p2 fz (4 : Int32)), vI 1] [iI 1, iI (own_sel p2 fz (4 : Int32)), iR al])) _
        refine XS.iadd X20.here hx rfl (hb hby d7_39) rfl ?_
        show Steps _ _ _ (T20.setTop (mkF m 40 #[vR a1, vI p2, vR a3, vI (own_sel p2 fz (4 : Int32)), vI 1] [iI ((own_sel p2 fz (4 : Int32)) + (1 : Int32)), iR al])) _
        refine X20.baloadBytes hx (j := ((own_sel p2 fz (4 : Int32)) + (1 : Int32))) (v := (.int (own_at x0 x1 x2 x3 x4 x5 x6 ((own_sel p2 fz (4 : Int32)) + (1 : Int32))))) (by rw [e20]; exact Ar13.1) (State.isArrayOf_alike hZ.alike Ar13.2.1) Ar13.2.2 hin21 hat22 (g := (mkF m 40 #[vR a1, vI p2, vR a3, vI (own_sel p2 fz (4 : Int32)), vI 1] [iI ((own_sel p2 fz (4 : Int32)) + (1 : Int32)), iR al])) rfl rfl (hb hby d7_40) _ ?_
        show Steps _ _ _ (T20.setTop (mkF m 41 #[vR a1, vI p2, vR a3, vI (own_sel p2 fz (4 : Int32)), vI 1] [iI (own_at x0 x1 x2 x3 x4 x5 x6 ((own_sel p2 fz (4 : Int32)) + (1 : Int32)))])) _
        refine XS.aloadN X20.here hx rfl (hb hby d7_41) rfl rfl ?_
        show Steps _ _ _ (T20.setTop (mkF m 42 #[vR a1, vI p2, vR a3, vI (own_sel p2 fz (4 : Int32)), vI 1] [iR a3, iI (own_at x0 x1 x2 x3 x4 x5 x6 ((own_sel p2 fz (4 : Int32)) + (1 : Int32)))])) _
        refine XS.iload X20.here hx rfl (hb hby d7_42) rfl ?_
        show Steps _ _ _ (T20.setTop (mkF m 44 #[vR a1, vI p2, vR a3, vI (own_sel p2 fz (4 : Int32)), vI 1] [iI 1, iR a3, iI (own_at x0 x1 x2 x3 x4 x5 x6 ((own_sel p2 fz (4 : Int32)) + (1 : Int32)))])) _
        refine X20.baloadBytes hx (j := (1 : Int32)) (v := (.int y1)) (by rw [e20]; exact Ar9.1) (State.isArrayOf_alike hZ.alike Ar9.2.1) Ar9.2.2 hin23 hat24 (g := (mkF m 44 #[vR a1, vI p2, vR a3, vI (own_sel p2 fz (4 : Int32)), vI 1] [iI 1, iR a3, iI (own_at x0 x1 x2 x3 x4 x5 x6 ((own_sel p2 fz (4 : Int32)) + (1 : Int32)))])) rfl rfl (hb hby d7_44) _ ?_
        exact kt
      by_cases hc25 : (own_at x0 x1 x2 x3 x4 x5 x6 ((own_sel p2 fz (4 : Int32)) + (1 : Int32))) = y1
      · obtain ⟨fs, hr, hrun, hended, hW, hsame⟩ := X20.leave (v := some (.int (1 : Int32))) (fun h => by rw [Bd.returns] at h; cases h)
        refine ⟨_, _, pre26 _ ?_, hrun, hended, _, _, rfl, ?_, ⟨_, rfl⟩, hW, hsame.mono (by decide) (by decide)⟩
        · show Steps _ _ _ (T20.setTop (mkF m 45 #[vR a1, vI p2, vR a3, vI (own_sel p2 fz (4 : Int32)), vI 1] [iI y1, iI (own_at x0 x1 x2 x3 x4 x5 x6 ((own_sel p2 fz (4 : Int32)) + (1 : Int32)))])) _
          refine XS.icmpYes X20.here hx rfl (pc0 := 45) (pc' := 50) rfl (hb hby d7_45) rfl (teq hc25).1 (by decide) (by decide) ?_
          show Steps _ _ _ (T20.setTop (mkF m 50 #[vR a1, vI p2, vR a3, vI (own_sel p2 fz (4 : Int32)), vI 1] [])) _
          refine XS.iinc X20.here hx rfl (hb hby d7_50) rfl (l' := #[vR a1, vI p2, vR a3, vI (own_sel p2 fz (4 : Int32)), vI ((1 : Int32) + (1 : Int32))]) rfl ?_
          rw [(by decide : ((1 : Int32) + (1 : Int32)) = (2 : Int32))]
          show Steps _ _ _ (T20.setTop (mkF m 53 #[vR a1, vI p2, vR a3, vI (own_sel p2 fz (4 : Int32)), vI 2] [])) _
          refine XS.goto X20.here hx rfl (pc0 := 53) (pc' := 25) rfl (hb hby d7_53) (by decide) (by decide) ?_
          show Steps _ _ _ (T20.setTop (mkF m 25 #[vR a1, vI p2, vR a3, vI (own_sel p2 fz (4 : Int32)), vI 2] [])) _
          refine XS.iload X20.here hx rfl (hb hby d7_25) rfl ?_
          show Steps _ _ _ (T20.setTop (mkF m 27 #[vR a1, vI p2, vR a3, vI (own_sel p2 fz (4 : Int32)), vI 2] [iI 2])) _
          refine XS.aloadN X20.here hx rfl (hb hby d7_27) rfl rfl ?_
          show Steps _ _ _ (T20.setTop (mkF m 28 #[vR a1, vI p2, vR a3, vI (own_sel p2 fz (4 : Int32)), vI 2] [iR a3, iI 2])) _
          refine X20.arraylength hx (by rw [e20]; exact Ar9.1) (State.isArrayOf_alike hZ.alike Ar9.2.1) (g := (mkF m 28 #[vR a1, vI p2, vR a3, vI (own_sel p2 fz (4 : Int32)), vI 2] [iR a3, iI 2])) rfl rfl (hb hby d7_28) _ ?_
          rw [len_of S9 M9]
          show Steps _ _ _ (T20.setTop (mkF m 29 #[vR a1, vI p2, vR a3, vI (own_sel p2 fz (4 : Int32)), vI 2] [iI 2, iI 2])) _
          refine XS.icmpYes X20.here hx rfl (pc0 := 29) (pc' := 56) rfl (hb hby d7_29) rfl (flt (by decide : ¬ ((2 : Int32) < (2 : Int32)))).2.1 (by decide) (by decide) ?_
          show Steps _ _ _ (T20.setTop (mkF m 56 #[vR a1, vI p2, vR a3, vI (own_sel p2 fz (4 : Int32)), vI 2] [])) _
          refine XS.iconst X20.here hx rfl (hb hby d7_56) ?_
          show Steps _ _ _ (T20.setTop (mkF m 57 #[vR a1, vI p2, vR a3, vI (own_sel p2 fz (4 : Int32)), vI 2] [iI 1])) _
          exact retN X20 hx (t := .boolean) Bd.returns (by simp) (hb hby d7_57) hr
        · show Q7_2 Z a1 p2 a3 s1 s2 al k1 k2 kl ke fz tz x0 x1 x2 x3 x4 x5 x6 y0 y1 h0 _ T20.heap _
          rw [e20]
          exact ⟨by first | rfl | (simp only [own_is_2, if_pos hc10, if_pos hc18, if_pos hc25]; done) | (simp only [own_is_2, if_pos hc10, if_pos hc18, if_pos hc25]; rfl) | (simp only [own_is_2, if_pos hc10, if_pos hc18, if_pos hc25, nar] ; first | rfl | (simp; done) | decide), rfl, rfl⟩
      · obtain ⟨fs, hr, hrun, hended, hW, hsame⟩ := X20.leave (v := some (.int (0 : Int32))) (fun h => by rw [Bd.returns] at h; cases h)
        refine ⟨_, _, pre26 _ ?_, hrun, hended, _, _, rfl, ?_, ⟨_, rfl⟩, hW, hsame.mono (by decide) (by decide)⟩
        · show Steps _ _ _ (T20.setTop (mkF m 45 #[vR a1, vI p2, vR a3, vI (own_sel p2 fz (4 : Int32)), vI 1] [iI y1, iI (own_at x0 x1 x2 x3 x4 x5 x6 ((own_sel p2 fz (4 : Int32)) + (1 : Int32)))])) _
          refine XS.icmpNo X20.here hx rfl (hb hby d7_45) rfl (feq hc25).1 ?_
          show Steps _ _ _ (T20.setTop (mkF m 48 #[vR a1, vI p2, vR a3, vI (own_sel p2 fz (4 : Int32)), vI 1] [])) _
          refine XS.iconst X20.here hx rfl (hb hby d7_48) ?_
          show Steps _ _ _ (T20.setTop (mkF m 49 #[vR a1, vI p2, vR a3, vI (own_sel p2 fz (4 : Int32)), vI 1] [iI 0])) _
          exact retN X20 hx (t := .boolean) Bd.returns (by simp) (hb hby d7_49) hr
        · show Q7_2 Z a1 p2 a3 s1 s2 al k1 k2 kl ke fz tz x0 x1 x2 x3 x4 x5 x6 y0 y1 h0 _ T20.heap _
          rw [e20]
          exact ⟨by first | rfl | (simp only [own_is_2, if_pos hc10, if_pos hc18, if_neg hc25]; done) | (simp only [own_is_2, if_pos hc10, if_pos hc18, if_neg hc25]; rfl) | (simp only [own_is_2, if_pos hc10, if_pos hc18, if_neg hc25, nar] ; first | rfl | (simp; done) | decide), rfl, rfl⟩
    · obtain ⟨fs, hr, hrun, hended, hW, hsame⟩ := X12.leave (v := some (.int (0 : Int32))) (fun h => by rw [Bd.returns] at h; cases h)
      refine ⟨_, _, pre19 _ ?_, hrun, hended, _, _, rfl, ?_, ⟨_, rfl⟩, hW, hsame.mono (by decide) (by decide)⟩
      · show Steps _ _ _ (T12.setTop (mkF m 45 #[vR a1, vI p2, vR a3, vI (own_sel p2 fz (4 : Int32)), vI 0] [iI y0, iI (own_at x0 x1 x2 x3 x4 x5 x6 ((own_sel p2 fz (4 : Int32)) + (0 : Int32)))])) _
        refine XS.icmpNo X12.here hx rfl (hb hby d7_45) rfl (feq hc18).1 ?_
        show Steps _ _ _ (T12.setTop (mkF m 48 #[vR a1, vI p2, vR a3, vI (own_sel p2 fz (4 : Int32)), vI 0] [])) _
        refine XS.iconst X12.here hx rfl (hb hby d7_48) ?_
        show Steps _ _ _ (T12.setTop (mkF m 49 #[vR a1, vI p2, vR a3, vI (own_sel p2 fz (4 : Int32)), vI 0] [iI 0])) _
        exact retN X12 hx (t := .boolean) Bd.returns (by simp) (hb hby d7_49) hr
      · show Q7_2 Z a1 p2 a3 s1 s2 al k1 k2 kl ke fz tz x0 x1 x2 x3 x4 x5 x6 y0 y1 h0 _ T12.heap _
        rw [e12]
        exact ⟨by first | rfl | (simp only [own_is_2, if_pos hc10, if_neg hc18]; done) | (simp only [own_is_2, if_pos hc10, if_neg hc18]; rfl) | (simp only [own_is_2, if_pos hc10, if_neg hc18, nar] ; first | rfl | (simp; done) | decide), rfl, rfl⟩
  · obtain ⟨fs, hr, hrun, hended, hW, hsame⟩ := X5.leave (v := some (.int (0 : Int32))) (fun h => by rw [Bd.returns] at h; cases h)
    refine ⟨_, _, pre11 _ ?_, hrun, hended, _, _, rfl, ?_, ⟨_, rfl⟩, hW, hsame.mono (by decide) (by decide)⟩
    · show Steps _ _ _ (T5.setTop (mkF m 17 #[vR a1, vI p2, vR a3, vI (own_sel p2 fz (4 : Int32)), .unset] [iI 2, iI ((own_sel p2 (3 : Int32) tz) - (own_sel p2 fz (4 : Int32)))])) _
      refine XS.icmpNo X5.here hx rfl (hb hby d7_17) rfl (feq hc10).1 ?_
      show Steps _ _ _ (T5.setTop (mkF m 20 #[vR a1, vI p2, vR a3, vI (own_sel p2 fz (4 : Int32)), .unset] [])) _
      refine XS.iconst X5.here hx rfl (hb hby d7_20) ?_
      show Steps _ _ _ (T5.setTop (mkF m 21 #[vR a1, vI p2, vR a3, vI (own_sel p2 fz (4 : Int32)), .unset] [iI 0])) _
      exact retN X5 hx (t := .boolean) Bd.returns (by simp) (hb hby d7_21) hr
    · show Q7_2 Z a1 p2 a3 s1 s2 al k1 k2 kl ke fz tz x0 x1 x2 x3 x4 x5 x6 y0 y1 h0 _ T5.heap _
      rw [e5]
      exact ⟨by first | rfl | (simp only [own_is_2, if_neg hc10]; done) | (simp only [own_is_2, if_neg hc10]; rfl) | (simp only [own_is_2, if_neg hc10, nar] ; first | rfl | (simp; done) | decide), rfl, rfl⟩
def own_is_3 (p2 : Int32) (fz tz : Int32) (x0 : Int32) (x1 : Int32) (x2 : Int32) (x3 : Int32) (x4 : Int32) (x5 : Int32) (x6 : Int32) (y0 : Int32) (y1 : Int32) (y2 : Int32) : Int32 := (if ((own_sel p2 (3 : Int32) tz) - (own_sel p2 fz (4 : Int32))) = (3 : Int32) then (if (own_at x0 x1 x2 x3 x4 x5 x6 ((own_sel p2 fz (4 : Int32)) + (0 : Int32))) = y0 then (if (own_at x0 x1 x2 x3 x4 x5 x6 ((own_sel p2 fz (4 : Int32)) + (1 : Int32))) = y1 then (if (own_at x0 x1 x2 x3 x4 x5 x6 ((own_sel p2 fz (4 : Int32)) + (2 : Int32))) = y2 then (1 : Int32) else (0 : Int32)) else (0 : Int32)) else (0 : Int32)) else (0 : Int32))
theorem ef_7_3 (m : MethodId) (x0 : Addr) (x1 : Int32) (x2 : Addr) : entryFrame m #[(.ref x0), (.int x1), (.ref x2)] 5 = mkF m 0 #[.val (.ref x0), .val (.int x1), .val (.ref x2), .unset, .unset] [] := by first | (simp [entryFrame, mkF, argsToLocals, Value.category]; done) | rfl
def Q7_3 (Z : State) (a1 : Addr) (p2 : Int32) (a3 : Addr) (s1 s2 al : Addr) (k1 k2 kl ke : ClassId) (fz tz : Int32) (x0 : Int32) (x1 : Int32) (x2 : Int32) (x3 : Int32) (x4 : Int32) (x5 : Int32) (x6 : Int32) (y0 : Int32) (y1 : Int32) (y2 : Int32) (h0 : Heap) (v : Option Value) (h : Heap) (L : List Loc) : Prop := v = some (.int (own_is_3 p2 fz tz x0 x1 x2 x3 x4 x5 x6 y0 y1 y2)) ∧ L = [] ∧ h = h0
set_option maxRecDepth 65536 in
set_option maxHeartbeats 40000000 in
theorem rm7_3 (l : Launch) (Z : State) (a0 : Array Value) (hw : ∀ d ∈ tables_1, d.before a0 Z = true) (ws : List Jvm.Cond) (a1 : Addr) (p2 : Int32) (a3 : Addr) (s1 s2 al : Addr) (k1 k2 kl ke : ClassId) (fz tz : Int32) (x0 : Int32) (x1 : Int32) (x2 : Int32) (x3 : Int32) (x4 : Int32) (x5 : Int32) (x6 : Int32) (y0 : Int32) (y1 : Int32) (y2 : Int32) (h0 : Heap) (F_line : Fld Z h0 a1 "com/example/tidemine/tidemine/TextFormat$Tokens" "line" "[B" (.ref al)) (F_starts : Fld Z h0 a1 "com/example/tidemine/tidemine/TextFormat$Tokens" "starts" "[I" (.ref s1)) (F_ends : Fld Z h0 a1 "com/example/tidemine/tidemine/TextFormat$Tokens" "ends" "[I" (.ref s2)) (V_1 : Arv Z h0 s1 k1 .int (16 : Int32) [(.int fz), (.int (4 : Int32)), (.int (0 : Int32)), (.int (0 : Int32)), (.int (0 : Int32)), (.int (0 : Int32)), (.int (0 : Int32)), (.int (0 : Int32)), (.int (0 : Int32)), (.int (0 : Int32)), (.int (0 : Int32)), (.int (0 : Int32)), (.int (0 : Int32)), (.int (0 : Int32)), (.int (0 : Int32)), (.int (0 : Int32))] (.int (0 : Int32))) (V_2 : Arv Z h0 s2 k2 .int (16 : Int32) [(.int (3 : Int32)), (.int tz), (.int (0 : Int32)), (.int (0 : Int32)), (.int (0 : Int32)), (.int (0 : Int32)), (.int (0 : Int32)), (.int (0 : Int32)), (.int (0 : Int32)), (.int (0 : Int32)), (.int (0 : Int32)), (.int (0 : Int32)), (.int (0 : Int32)), (.int (0 : Int32)), (.int (0 : Int32)), (.int (0 : Int32))] (.int (0 : Int32))) (V_l : Arv Z h0 al kl .byte (7 : Int32) [(.int x0), (.int x1), (.int x2), (.int x3), (.int x4), (.int x5), (.int x6)] (.int (0 : Int32))) (V_e : Arv Z h0 a3 ke .byte (3 : Int32) [(.int y0), (.int y1), (.int y2)] (.int (0 : Int32))) (qp : p2 = 0 ∨ p2 = 1) (qf : fz = 0 ∨ fz = 1 ∨ fz = 2) (qt : tz = 5 ∨ tz = 6 ∨ tz = 7) :
    MetFree l (⟨"com/example/tidemine/tidemine/TextFormat$Tokens", "is", "(I[B)Z"⟩ : MethodName) (head1 (Jvm.Cond.code (⟨"com/example/tidemine/tidemine/TextFormat$Tokens", "is", "(I[B)Z"⟩ : MethodName) prog_41_method_7_code 5 (some .boolean) :: ws) ({ frames := 0, cells := 0, slots := 0, locals := 0 } : Room)) (fun a U => a = #[(.ref a1), (.int p2), (.ref a3)] ∧ Z.Warmed39 U.vm ∧ U.heap = h0) (fun _ _ _ _ _ => True) (fun _ U o U' => ∃ v L, o = .returned v ∧ Q7_3 Z a1 p2 a3 s1 s2 al k1 k2 kl ke fz tz x0 x1 x2 x3 x4 x5 x6 y0 y1 y2 h0 v U'.heap L ∧ FrameEnd U o U' L ({ frames := 0, cells := 0, slots := 0, locals := 0 } : Room).cells ({ frames := 0, cells := 0, slots := 0, locals := 0 } : Room).slots) := by
  refine MetFree.of_bodySF (plainFor_of_name pn_2) hisR ?_
  intro p e s m args below meth c s₁ Bd hml0 hP hK
  obtain ⟨rfl, hZ, hh⟩ := hP
  have hx := Bd.exec
  have hby := Bd.bytes
  have hml : c.maxLocals = 5 := hml0
  have hown : s.vm.findClass "com/example/tidemine/tidemine/TextFormat$Tokens" = some m.cls := findClass_of_methodNamed Bd.named
  have hnm := (name_of_methodNamed Bd.named Bd.method).1
  have X0 : Stand p l e ({ frames := 0, cells := 0, slots := 0, locals := 0 } : Room) s m #[(.ref a1), (.int p2), (.ref a3)] below meth c s₁ [] 0 0 := Stand.of_body Bd
  have e0 : s₁.heap = h0 := by rw [← hh, Bd.state]; rfl
  have pre0 : ∀ t, Steps p.tables e below (s₁.setTop (mkF m 0 #[.val (.ref a1), .val (.int p2), .val (.ref a3), .unset, .unset] [])) t → Steps p.tables e below (s₁.setTop (entryFrame m #[(.ref a1), (.int p2), (.ref a3)] 5)) t := fun t k => castTop (ef_7_3 m a1 p2 a3) k
  obtain ⟨T1, X1, e1, st1⟩ := getF X0 hx hZ hown (host := "") (Or.inl (hw _ (List.mem_of_getElem? (i := 19) rfl))) Via.refl e0 F_starts (g := (mkF m 1 #[vR a1, vI p2, vR a3, .unset, .unset] [iR a1])) rfl rfl (hb hby d7_1)
  obtain ⟨cl2, Ar2, q2, S2, M2, H2, G2⟩ := id V_1
  have hin3 : ¬ (p2 < 0 ∨ cl2.slots.size ≤ (p2).toNatClampNeg) := inb_of S2 (own_in16 qp)
  have hat4 : cl2.slots[(p2).toNatClampNeg]? = some (.int (own_sel p2 fz (4 : Int32))) := Has.at H2 hin3 (own_selL qp rfl rfl)
  obtain ⟨T5, X5, e5, st5⟩ := getF X1 hx hZ hown (host := "") (Or.inl (hw _ (List.mem_of_getElem? (i := 21) rfl))) Via.refl e1 F_ends (g := (mkF m 8 #[vR a1, vI p2, vR a3, vI (own_sel p2 fz (4 : Int32)), .unset] [iR a1])) rfl rfl (hb hby d7_8)
  obtain ⟨cl6, Ar6, q6, S6, M6, H6, G6⟩ := id V_2
  have hin7 : ¬ (p2 < 0 ∨ cl6.slots.size ≤ (p2).toNatClampNeg) := inb_of S6 (own_in16 qp)
  have hat8 : cl6.slots[(p2).toNatClampNeg]? = some (.int (own_sel p2 (3 : Int32) tz)) := Has.at H6 hin7 (own_selL qp rfl rfl)
  obtain ⟨cl9, Ar9, q9, S9, M9, H9, G9⟩ := id V_e
  have pre11 : ∀ t, Steps p.tables e below (T5.setTop (mkF m 17 #[vR a1, vI p2, vR a3, vI (own_sel p2 fz (4 : Int32)), .unset] [iI 3, iI ((own_sel p2 (3 : Int32) tz) - (own_sel p2 fz (4 : Int32)))])) t → Steps p.tables e below (s₁.setTop (entryFrame m #[(.ref a1), (.int p2), (.ref a3)] 5)) t := by
    intro t kt
    refine pre0 t ?_
    show Steps _ _ _ (s₁.setTop (mkF m 0 #[vR a1, vI p2, vR a3, .unset, .unset] [])) _
    refine XS.aloadN X0.here hx rfl (hb hby d7_0) rfl rfl ?_
    show Steps _ _ _ (s₁.setTop (mkF m 1 #[vR a1, vI p2, vR a3, .unset, .unset] [iR a1])) _
    refine st1 _ ?_
    show Steps _ _ _ (T1.setTop (mkF m 4 #[vR a1, vI p2, vR a3, .unset, .unset] [iR s1])) _
    refine XS.iloadN X1.here hx rfl (hb hby d7_4) rfl ?_
    show Steps _ _ _ (T1.setTop (mkF m 5 #[vR a1, vI p2, vR a3, .unset, .unset] [iI p2, iR s1])) _
    refine X1.iaload hx (j := p2) (v := (.int (own_sel p2 fz (4 : Int32)))) (by rw [e1]; exact Ar2.1) (State.isArrayOf_alike hZ.alike Ar2.2.1) Ar2.2.2 hin3 hat4 (g := (mkF m 5 #[vR a1, vI p2, vR a3, .unset, .unset] [iI p2, iR s1])) rfl rfl (hb hby d7_5) _ ?_
    show Steps _ _ _ (T1.setTop (mkF m 6 #[vR a1, vI p2, vR a3, .unset, .unset] [iI (own_sel p2 fz (4 : Int32))])) _
    refine XS.istoreN X1.here hx rfl (hb hby d7_6) rfl (l' := #[vR a1, vI p2, vR a3, vI (own_sel p2 fz (4 : Int32)), .unset]) rfl ?_
    show Steps _ _ _ (T1.setTop (mkF m 7 #[vR a1, vI p2, vR a3, vI (own_sel p2 fz (4 : Int32)), .unset] [])) _
    refine XS.aloadN X1.here hx rfl (hb hby d7_7) rfl rfl ?_
    show Steps _ _ _ (T1.setTop (mkF m 8 #[vR a1, vI p2, vR a3, vI (own_sel p2 fz (4 : Int32)), .unset] [iR a1])) _
    refine st5 _ ?_
    show Steps _ _ _ (T5.setTop (mkF m 11 #[vR a1, vI p2, vR a3, vI (own_sel p2 fz (4 : Int32)), .unset] [iR s2])) _
    refine XS.iloadN X5.here hx rfl (hb hby d7_11) rfl ?_
    show Steps _ _ _ (T5.setTop (mkF m 12 #[vR a1, vI p2, vR a3, vI (own_sel p2 fz (4 : Int32)), .unset] [iI p2, iR s2])) _
    refine X5.iaload hx (j := p2) (v := (.int (own_sel p2 (3 : Int32) tz))) (by rw [e5]; exact Ar6.1) (State.isArrayOf_alike hZ.alike Ar6.2.1) Ar6.2.2 hin7 hat8 (g := (mkF m 12 #[vR a1, vI p2, vR a3, vI (own_sel p2 fz (4 : Int32)), .unset] [iI p2, iR s2])) rfl rfl (hb hby d7_12) _ ?_
    show Steps _ _ _ (T5.setTop (mkF m 13 #[vR a1, vI p2, vR a3, vI (own_sel p2 fz (4 : Int32)), .unset] [iI (own_sel p2 (3 : Int32) tz)])) _
    refine XS.iloadN X5.here hx rfl (hb hby d7_13) rfl ?_
    show Steps _ _ _ (T5.setTop (mkF m 14 #[vR a1, vI p2, vR a3, vI (own_sel p2 fz (4 : Int32)), .unset] [iI (own_sel p2 fz (4 : Int32)), iI (own_sel p2 (3 : Int32) tz)])) _
    refine XS.isub X5.here hx rfl (hb hby d7_14) rfl ?_
    show Steps _ _ _ (T5.setTop (mkF m 15 #[vR a1, vI p2, vR a3, vI (own_sel p2 fz (4 : Int32)), .unset] [iI ((own_sel p2 (3 : Int32) tz) - (own_sel p2 fz (4 : Int32)))])) _
    refine XS.aloadN X5.here hx rfl (hb hby d7_15) rfl rfl ?_
    show Steps _ _ _ (T5.setTop (mkF m 16 #[vR a1, vI p2, vR a3, vI (own_sel p2 fz (4 : Int32)), .unset] [iR a3, iI ((own_sel p2 (3 : Int32) tz) - (own_sel p2 fz (4 : Int32)))])) _
    refine X5.arraylength hx (by rw [e5]; exact Ar9.1) (State.isArrayOf_alike hZ.alike Ar9.2.1) (g := (mkF m 16 #[vR a1, vI p2, vR a3, vI (own_sel p2 fz (4 : Int32)), .unset] [iR a3, iI ((own_sel p2 (3 : Int32) tz) - (own_sel p2 fz (4 : Int32)))])) rfl rfl (hb hby d7_16) _ ?_
    rw [len_of S9 M9]
    exact kt
  by_cases hc10 : ((own_sel p2 (3 : Int32) tz) - (own_sel p2 fz (4 : Int32))) = (3 : Int32)
  · obtain ⟨T12, X12, e12, st12⟩ := getF X5 hx hZ hown (host := "") (Or.inl (hw _ (List.mem_of_getElem? (i := 28) rfl))) Via.refl e5 F_line (g := (mkF m 33 #[vR a1, vI p2, vR a3, vI (own_sel p2 fz (4 : Int32)), vI 0] [iR a1])) rfl rfl (hb hby d7_33)
    obtain ⟨cl13, Ar13, q13, S13, M13, H13, G13⟩ := id V_l
    have hin14 : ¬ (((own_sel p2 fz (4 : Int32)) + (0 : Int32)) < 0 ∨ cl13.slots.size ≤ (((own_sel p2 fz (4 : Int32)) + (0 : Int32))).toNatClampNeg) := inb_of S13 (own_inb3_0 qp qf qt hc10)
    have hat15 : cl13.slots[(((own_sel p2 fz (4 : Int32)) + (0 : Int32))).toNatClampNeg]? = some (.int (own_at x0 x1 x2 x3 x4 x5 x6 ((own_sel p2 fz (4 : Int32)) + (0 : Int32)))) := Has.at H13 hin14 (own_atL (own_inb3_0 qp qf qt hc10))
    have hin16 : ¬ ((0 : Int32) < 0 ∨ cl9.slots.size ≤ ((0 : Int32)).toNatClampNeg) := inb_of S9 ⟨by decide, by decide⟩
    have hat17 : cl9.slots[((0 : Int32)).toNatClampNeg]? = some (.int y0) := Has.at H9 hin16 rfl
    have pre19 : ∀ t, Steps p.tables e below (T12.setTop (mkF m 45 #[vR a1, vI p2, vR a3, vI (own_sel p2 fz (4 : Int32)), vI 0] [iI y0, iI (own_at x0 x1 x2 x3 x4 x5 x6 ((own_sel p2 fz (4 : Int32)) + (0 : Int32)))])) t → Steps p.tables e below (s₁.setTop (entryFrame m #[(.ref a1), (.int p2), (.ref a3)] 5)) t := by
      intro t kt
      refine pre11 t ?_
      show Steps _ _ _ (T5.setTop (mkF m 17 #[vR a1, vI p2, vR a3, vI (own_sel p2 fz (4 : Int32)), .unset] [iI 3, iI ((own_sel p2 (3 : Int32) tz) - (own_sel p2 fz (4 : Int32)))])) _
      refine XS.icmpYes X5.here hx rfl (pc0 := 17) (pc' := 22) rfl (hb hby d7_17) rfl (teq hc10).1 (by decide) (by decide) ?_
      show Steps _ _ _ (T5.setTop (mkF m 22 #[vR a1, vI p2, vR a3, vI (own_sel p2 fz (4 : Int32)), .unset] [])) _
      refine XS.iconst X5.here hx rfl (hb hby d7_22) ?_
      show Steps _ _ _ (T5.setTop (mkF m 23 #[vR a1, vI p2, vR a3, vI (own_sel p2 fz (4 : Int32)), .unset] [iI 0])) _
      refine XS.istore X5.here hx rfl (hb hby d7_23) rfl (l' := #[vR a1, vI p2, vR a3, vI (own_sel p2 fz (4 : Int32)), vI 0]) rfl ?_
      show Steps _ _ _ (T5.setTop (mkF m 25 #[vR a1, vI p2, vR a3, vI (own_sel p2 fz (4 : Int32)), vI 0] [])) _
      refine XS.iload X5.here hx rfl (hb hby d7_25) rfl ?_
      show Steps _ _ _ (T5.setTop (mkF m 27 #[vR a1, vI p2, vR a3, vI (own_sel p2 fz (4 : Int32)), vI 0] [iI 0])) _
      refine XS.aloadN X5.here hx rfl (hb hby d7_27) rfl rfl ?_
      show Steps _ _ _ (T5.setTop (mkF m 28 #[vR a1, vI p2, vR a3, vI (own_sel p2 fz (4 : Int32)), vI 0] [iR a3, iI 0])) _
      refine X5.arraylength hx (by rw [e5]; exact Ar9.1) (State.isArrayOf_alike hZ.alike Ar9.2.1) (g := (mkF m 28 #[vR a1, vI p2, vR a3, vI (own_sel p2 fz (4 : Int32)), vI 0] [iR a3, iI 0])) rfl rfl (hb hby d7_28) _ ?_
      rw [len_of S9 M9]
      show Steps _ _ _ (T5.setTop (mkF m 29 #[vR a1, vI p2, vR a3, vI (own_sel p2 fz (4 : Int32)), vI 0] [iI 3, iI 0])) _
      refine XS.icmpNo X5.here hx rfl (hb hby d7_29) rfl (tlt (by decide : (0 : Int32) < (3 : Int32))).2.1 ?_
      show Steps _ _ _ (T5.setTop (mkF m 32 #[vR a1, vI p2, vR a3, vI (own_sel p2 fz (4 : Int32)), vI 0] [])) _
      refine XS.aloadN X5.here hx rfl (hb hby d7_32) rfl rfl ?_
      show Steps _ _ _ (T5.setTop (mkF m 33 #[vR a1, vI p2, vR a3, vI (own_sel p2 fz (4 : Int32)), vI 0] [iR a1])) _
      refine st12 _ ?_
      show Steps _ _ _ (T12.setTop (mkF m 36 #[vR a1, vI p2, vR a3, vI (own_sel p2 fz (4 : Int32)), vI 0] [iR al])) _
      refine XS.iloadN X12.here hx rfl (hb hby d7_36) rfl ?_
      show Steps _ _ _ (T12.setTop (mkF m 37 #[vR a1, vI p2, vR a3, vI (own_sel p2 fz (4 : Int32)), vI 0] [iI (own_sel p2 fz (4 : Int32)), iR al])) _
      refine XS.iload X12.here hx rfl (hb hby d7_37) rfl ?_
      show Steps _ _ _ (T12.setTop (mkF m 39 #[vR a1, vI p2, vR a3, vI (own_sel p2 fz (4 : Int32)), vI 0] [iI 0, iI (own_sel p2 fz (4 : Int32)), iR al])) _
      refine XS.iadd X12.here hx rfl (hb hby d7_39) rfl ?_
      show Steps _ _ _ (T12.setTop (mkF m 40 #[vR a1, vI p2, vR a3, vI (own_sel p2 fz (4 : Int32)), vI 0] [iI ((own_sel p2 fz (4 : Int32)) + (0 : Int32)), iR al])) _
      refine X12.baloadBytes hx (j := ((own_sel p2 fz (4 : Int32)) + (0 : Int32))) (v := (.int (own_at x0 x1 x2 x3 x4 x5 x6 ((own_sel p2 fz (4 : Int32)) + (0 : Int32))))) (by rw [e12]; exact Ar13.1) (State.isArrayOf_alike hZ.alike Ar13.2.1) Ar13.2.2 hin14 hat15 (g := (mkF m 40 #[vR a1, vI p2, vR a3, vI (own_sel p2 fz (4 : Int32)), vI 0] [iI ((own_sel p2 fz (4 : Int32)) + (0 : Int32)), iR al])) rfl rfl (hb hby d7_40) _ ?_
      show Steps _ _ _ (T12.setTop (mkF m 41 #[vR a1, vI p2, vR a3, vI (own_sel p2 fz (4 : Int32)), vI 0] [iI (own_at x0 x1 x2 x3 x4 x5 x6 ((own_sel p2 fz (4 : Int32)) + (0 : Int32)))])) _
      refine XS.aloadN X12.here hx rfl (hb hby d7_41) rfl rfl ?_
      show Steps _ _ _ (T12.setTop (mkF m 42 #[vR a1, vI p2, vR a3, vI (own_sel p2 fz (4 : Int32)), vI 0] [iR a3, iI (own_at x0 x1 x2 x3 x4 x5 x6 ((own_sel p2 fz (4 : Int32)) + (0 : Int32)))])) _
      refine XS.iload X12.here hx rfl (hb hby d7_42) rfl ?_
      show Steps _ _ _ (T12.setTop (mkF m 44 #[vR a1, vI p2, vR a3, vI (own_sel p2 fz (4 : Int32)), vI 0] [iI 0, iR a3, iI (own_at x0 x1 x2 x3 x4 x5 x6 ((own_sel p2 fz (4 : Int32)) + (0 : Int32)))])) _
      refine X12.baloadBytes hx (j := (0 : Int32)) (v := (.int y0)) (by rw [e12]; exact Ar9.1) (State.isArrayOf_alike hZ.alike Ar9.2.1) Ar9.2.2 hin16 hat17 (g := (mkF m 44 #[vR a1, vI p2, vR a3, vI (own_sel p2 fz (4 : Int32)), vI 0] [iI 0, iR a3, iI (own_at x0 x1 x2 x3 x4 x5 x6 ((own_sel p2 fz (4 : Int32)) + (0 : Int32)))])) rfl rfl (hb hby d7_44) _ ?_
      exact kt
    by_cases hc18 : (own_at x0 x1 x2 x3 x4 x5 x6 ((own_sel p2 fz (4 : Int32)) + (0 : Int32))) = y0
    · obtain ⟨T20, X20, e20, st20⟩ := getF X12 hx hZ hown (host := "") (Or.inl (hw _ (List.mem_of_getElem? (i := 28) rfl))) Via.refl e12 F_line (g := (mkF m 33 #[vR a1, vI p2, vR a3, vI (own_sel p2 fz (4 : Int32)), vI 1] [iR a1])) rfl rfl (hb hby d7_33)
      have hin21 : ¬ (((own_sel p2 fz (4 : Int32)) + (1 : Int32)) < 0 ∨ cl13.slots.size ≤ (((own_sel p2 fz (4 : Int32)) + (1 : Int32))).toNatClampNeg) := inb_of S13 (own_inb3_1 qp qf qt hc10)
      have hat22 : cl13.slots[(((own_sel p2 fz (4 : Int32)) + (1 : Int32))).toNatClampNeg]? = some (.int (own_at x0 x1 x2 x3 x4 x5 x6 ((own_sel p2 fz (4 : Int32)) + (1 : Int32)))) := Has.at H13 hin21 (own_atL (own_inb3_1 qp qf qt hc10))
      have hin23 : ¬ ((1 : Int32) < 0 ∨ cl9.slots.size ≤ ((1 : Int32)).toNatClampNeg) := inb_of S9 ⟨by decide, by decide⟩
      have hat24 : cl9.slots[((1 : Int32)).toNatClampNeg]? = some (.int y1) := Has.at H9 hin23 rfl
      have pre26 : ∀ t, Steps p.tables e below (T20.setTop (mkF m 45 #[vR a1, vI p2, vR a3, vI (own_sel p2 fz (4 : Int32)), vI 1] [iI y1, iI (own_at x0 x1 x2 x3 x4 x5 x6 ((own_sel p2 fz (4 : Int32)) + (1 : Int32)))])) t → Steps p.tables e below (s₁.setTop (entryFrame m #[(.ref a1), (.int p2), (.ref a3)] 5)) t := by
        intro t kt
        refine pre19 t ?_
        show Steps _ _ _ (T12.setTop (mkF m 45 #[vR a1, vI p2, vR a3, vI (own_sel p2 fz (4 : Int32)), vI 0] [iI y0, iI (own_at x0 x1 x2 x3 x4 x5 x6 ((own_sel p2 fz (4 : Int32)) + (0 : Int32)))])) _
        refine XS.icmpYes X12.here hx rfl (pc0 := 45) (pc' := 50) rfl (hb hby d7_45) rfl (teq hc18).1 (by decide) (by decide) ?_
        show Steps _ _ _ (T12.setTop (mkF m 50 #[vR a1, vI p2, vR a3, vI (own_sel p2 fz (4 : Int32)), vI 0] [])) _
        refine XS.iinc X12.here hx rfl (hb hby d7_50) rfl (l' := #[vR a1, vI p2, vR a3, vI (own_sel p2 fz (4 : Int32)), vI ((0 : Int32) + (1 : Int32))]) rfl ?_
        rw [(by decide : ((0 : Int32) + (1 : Int32)) = (1 : Int32))]
        show Steps _ _ _ (T12.setTop (mkF m 53 #[vR a1, vI p2, vR a3, vI (own_sel p2 fz (4 : Int32)), vI 1] [])) _
        refine XS.goto X12.here hx rfl (pc0 := 53) (pc' := 25) rfl (hb hby d7_53) (by decide) (by decide) ?_
        show Steps _ _ _ (T12.setTop (mkF m 25 #[vR a1, vI p2, vR a3, vI (own_sel p2 fz (4 : Int32)), vI 1] [])) _
        refine XS.iload X12.here hx rfl (hb hby d7_25) rfl ?_
        show Steps _ _ _ (T12.setTop (mkF m 27 #[vR a1, vI p2, vR a3, vI (own_sel p2 fz (4 : Int32)), vI 1] [iI 1])) _
        refine XS.aloadN X12.here hx rfl (hb hby d7_27) rfl rfl ?_
        show Steps _ _ _ (T12.setTop (mkF m 28 #[vR a1, vI p2, vR a3, vI (own_sel p2 fz (4 : Int32)), vI 1] [iR a3, iI 1])) _
        refine X12.arraylength hx (by rw [e12]; exact Ar9.1) (State.isArrayOf_alike hZ.alike Ar9.2.1) (g := (mkF m 28 #[vR a1, vI p2, vR a3, vI (own_sel p2 fz (4 : Int32)), vI 1] [iR a3, iI 1])) rfl rfl (hb hby d7_28) _ ?_
        rw [len_of S9 M9]
        show Steps _ _ _ (T12.setTop (mkF m 29 #[vR a1, vI p2, vR a3, vI (own_sel p2 fz (4 : Int32)), vI 1] [iI 3, iI 1])) _
        refine XS.icmpNo X12.here hx rfl (hb hby d7_29) rfl (tlt (by decide : (1 : Int32) < (3 : Int32))).2.1 ?_
        show Steps _ _ _ (T12.setTop (mkF m 32 #[vR a1, vI p2, vR a3, vI (own_sel p2 fz (4 : Int32)), vI 1] [])) _
        refine XS.aloadN X12.here hx rfl (hb hby d7_32) rfl rfl ?_
        show Steps _ _ _ (T12.setTop (mkF m 33 #[vR a1, vI p2, vR a3, vI (own_sel p2 fz (4 : Int32)), vI 1] [iR a1])) _
        refine st20 _ ?_
        show Steps _ _ _ (T20.setTop (mkF m 36 #[vR a1, vI p2, vR a3, vI (own_sel p2 fz (4 : Int32)), vI 1] [iR al])) _
        refine XS.iloadN X20.here hx rfl (hb hby d7_36) rfl ?_
        show Steps _ _ _ (T20.setTop (mkF m 37 #[vR a1, vI p2, vR a3, vI (own_sel p2 fz (4 : Int32)), vI 1] [iI (own_sel p2 fz (4 : Int32)), iR al])) _
        refine XS.iload X20.here hx rfl (hb hby d7_37) rfl ?_
        show Steps _ _ _ (T20.setTop (mkF m 39 #[vR a1, vI p2, vR a3, vI (own_sel p2 fz (4 : Int32)), vI 1] [iI 1, iI (own_sel p2 fz (4 : Int32)), iR al])) _
        refine XS.iadd X20.here hx rfl (hb hby d7_39) rfl ?_
        show Steps _ _ _ (T20.setTop (mkF m 40 #[vR a1, vI p2, vR a3, vI (own_sel p2 fz (4 : Int32)), vI 1] [iI ((own_sel p2 fz (4 : Int32)) + (1 : Int32)), iR al])) _
        refine X20.baloadBytes hx (j := ((own_sel p2 fz (4 : Int32)) + (1 : Int32))) (v := (.int (own_at x0 x1 x2 x3 x4 x5 x6 ((own_sel p2 fz (4 : Int32)) + (1 : Int32))))) (by rw [e20]; exact Ar13.1) (State.isArrayOf_alike hZ.alike Ar13.2.1) Ar13.2.2 hin21 hat22 (g := (mkF m 40 #[vR a1, vI p2, vR a3, vI (own_sel p2 fz (4 : Int32)), vI 1] [iI ((own_sel p2 fz (4 : Int32)) + (1 : Int32)), iR al])) rfl rfl (hb hby d7_40) _ ?_
        show Steps _ _ _ (T20.setTop (mkF m 41 #[vR a1, vI p2, vR a3, vI (own_sel p2 fz (4 : Int32)), vI 1] [iI (own_at x0 x1 x2 x3 x4 x5 x6 ((own_sel p2 fz (4 : Int32)) + (1 : Int32)))])) _
        refine XS.aloadN X20.here hx rfl (hb hby d7_41) rfl rfl ?_
        show Steps _ _ _ (T20.setTop (mkF m 42 #[vR a1, vI p2, vR a3, vI (own_sel p2 fz (4 : Int32)), vI 1] [iR a3, iI (own_at x0 x1 x2 x3 x4 x5 x6 ((own_sel p2 fz (4 : Int32)) + (1 : Int32)))])) _
        refine XS.iload X20.here hx rfl (hb hby d7_42) rfl ?_
        show Steps _ _ _ (T20.setTop (mkF m 44 #[vR a1, vI p2, vR a3, vI (own_sel p2 fz (4 : Int32)), vI 1] [iI 1, iR a3, iI (own_at x0 x1 x2 x3 x4 x5 x6 ((own_sel p2 fz (4 : Int32)) + (1 : Int32)))])) _
        refine X20.baloadBytes hx (j := (1 : Int32)) (v := (.int y1)) (by rw [e20]; exact Ar9.1) (State.isArrayOf_alike hZ.alike Ar9.2.1) Ar9.2.2 hin23 hat24 (g := (mkF m 44 #[vR a1, vI p2, vR a3, vI (own_sel p2 fz (4 : Int32)), vI 1] [iI 1, iR a3, iI (own_at x0 x1 x2 x3 x4 x5 x6 ((own_sel p2 fz (4 : Int32)) + (1 : Int32)))])) rfl rfl (hb hby d7_44) _ ?_
        exact kt
      by_cases hc25 : (own_at x0 x1 x2 x3 x4 x5 x6 ((own_sel p2 fz (4 : Int32)) + (1 : Int32))) = y1
      · obtain ⟨T27, X27, e27, st27⟩ := getF X20 hx hZ hown (host := "") (Or.inl (hw _ (List.mem_of_getElem? (i := 28) rfl))) Via.refl e20 F_line (g := (mkF m 33 #[vR a1, vI p2, vR a3, vI (own_sel p2 fz (4 : Int32)), vI 2] [iR a1])) rfl rfl (hb hby d7_33)
        have hin28 : ¬ (((own_sel p2 fz (4 : Int32)) + (2 : Int32)) < 0 ∨ cl13.slots.size ≤ (((own_sel p2 fz (4 : Int32)) + (2 : Int32))).toNatClampNeg) := inb_of S13 (own_inb3_2 qp qf qt hc10)
        have hat29 : cl13.slots[(((own_sel p2 fz (4 : Int32)) + (2 : Int32))).toNatClampNeg]? = some (.int (own_at x0 x1 x2 x3 x4 x5 x6 ((own_sel p2 fz (4 : Int32)) + (2 : Int32)))) := Has.at H13 hin28 (own_atL (own_inb3_2 qp qf qt hc10))
        have hin30 : ¬ ((2 : Int32) < 0 ∨ cl9.slots.size ≤ ((2 : Int32)).toNatClampNeg) := inb_of S9 ⟨by decide, by decide⟩
        have hat31 : cl9.slots[((2 : Int32)).toNatClampNeg]? = some (.int y2) := Has.at H9 hin30 rfl
        have pre33 : ∀ t, Steps p.tables e below (T27.setTop (mkF m 45 #[vR a1, vI p2, vR a3, vI (own_sel p2 fz (4 : Int32)), vI 2] [iI y2, iI (own_at x0 x1 x2 x3 x4 x5 x6 ((own_sel p2 fz (4 : Int32)) + (2 : Int32)))])) t → Steps p.tables e below (s₁.setTop (entryFrame m #[(.ref a1), (.int p2), (.ref a3)] 5)) t := by
          intro t kt
          refine pre26 t ?_
          show Steps _ _ _ (T20.setTop (mkF m 45 #[vR a1, vI p2, vR a3, vI (own_sel p2 fz (4 : Int32)), vI 1] [iI y1, iI (own_at x0 x1 x2 x3 x4 x5 x6 ((own_sel p2 fz (4 : Int32)) + (1 : Int32)))])) _
          refine XS.icmpYes X20.here hx rfl (pc0 := 45) (pc' := 50) rfl (hb hby d7_45) rfl (teq hc25).1 (by decide) (by decide) ?_
          show Steps _ _ _ (T20.setTop (mkF m 50 #[vR a1, vI p2, vR a3, vI (own_sel p2 fz (4 : Int32)), vI 1] [])) _
          refine XS.iinc X20.here hx rfl (hb hby d7_50) rfl (l' := #[vR a1, vI p2, vR a3, vI (own_sel p2 fz (4 : Int32)), vI ((1 : Int32) + (1 : Int32))]) rfl ?_
          rw [(by decide : ((1 : Int32) + (1 : Int32)) = (2 : Int32))]
          show Steps _ _ _ (T20.setTop (mkF m 53 #[vR a1, vI p2, vR a3, vI (own_sel p2 fz (4 : Int32)), vI 2] [])) _
          refine XS.goto X20.here hx rfl (pc0 := 53) (pc' := 25) rfl (hb hby d7_53) (by decide) (by decide) ?_
          show Steps _ _ _ (T20.setTop (mkF m 25 #[vR a1, vI p2, vR a3, vI (own_sel p2 fz (4 : Int32)), vI 2] [])) _
          refine XS.iload X20.here hx rfl (hb hby d7_25) rfl ?_
          show Steps _ _ _ (T20.setTop (mkF m 27 #[vR a1, vI p2, vR a3, vI (own_sel p2 fz (4 : Int32)), vI 2] [iI 2])) _
          refine XS.aloadN X20.here hx rfl (hb hby d7_27) rfl rfl ?_
          show Steps _ _ _ (T20.setTop (mkF m 28 #[vR a1, vI p2, vR a3, vI (own_sel p2 fz (4 : Int32)), vI 2] [iR a3, iI 2])) _
          refine X20.arraylength hx (by rw [e20]; exact Ar9.1) (State.isArrayOf_alike hZ.alike Ar9.2.1) (g := (mkF m 28 #[vR a1, vI p2, vR a3, vI (own_sel p2 fz (4 : Int32)), vI 2] [iR a3, iI 2])) rfl rfl (hb hby d7_28) _ ?_
          rw [len_of S9 M9]
          show Steps _ _ _ (T20.setTop (mkF m 29 #[vR a1, vI p2, vR a3, vI (own_sel p2 fz (4 : Int32)), vI 2] [iI 3, iI 2])) _
          refine XS.icmpNo X20.here hx rfl (hb hby d7_29) rfl (tlt (by decide : (2 : Int32) < (3 : Int32))).2.1 ?_
          show Steps _ _ _ (T20.setTop (mkF m 32 #[vR a1, vI p2, vR a3, vI (own_sel p2 fz (4 : Int32)), vI 2] [])) _
          refine XS.aloadN X20.here hx rfl (hb hby d7_32) rfl rfl ?_
          show Steps _ _ _ (T20.setTop (mkF m 33 #[vR a1, vI p2, vR a3, vI (own_sel p2 fz (4 : Int32)), vI 2] [iR a1])) _
          refine st27 _ ?_
          show Steps _ _ _ (T27.setTop (mkF m 36 #[vR a1, vI p2, vR a3, vI (own_sel p2 fz (4 : Int32)), vI 2] [iR al])) _
          refine XS.iloadN X27.here hx rfl (hb hby d7_36) rfl ?_
          show Steps _ _ _ (T27.setTop (mkF m 37 #[vR a1, vI p2, vR a3, vI (own_sel p2 fz (4 : Int32)), vI 2] [iI (own_sel p2 fz (4 : Int32)), iR al])) _
          refine XS.iload X27.here hx rfl (hb hby d7_37) rfl ?_
          show Steps _ _ _ (T27.setTop (mkF m 39 #[vR a1, vI p2, vR a3, vI (own_sel p2 fz (4 : Int32)), vI 2] [iI 2, iI (own_sel p2 fz (4 : Int32)), iR al])) _
          refine XS.iadd X27.here hx rfl (hb hby d7_39) rfl ?_
          show Steps _ _ _ (T27.setTop (mkF m 40 #[vR a1, vI p2, vR a3, vI (own_sel p2 fz (4 : Int32)), vI 2] [iI ((own_sel p2 fz (4 : Int32)) + (2 : Int32)), iR al])) _
          refine X27.baloadBytes hx (j := ((own_sel p2 fz (4 : Int32)) + (2 : Int32))) (v := (.int (own_at x0 x1 x2 x3 x4 x5 x6 ((own_sel p2 fz (4 : Int32)) + (2 : Int32))))) (by rw [e27]; exact Ar13.1) (State.isArrayOf_alike hZ.alike Ar13.2.1) Ar13.2.2 hin28 hat29 (g := (mkF m 40 #[vR a1, vI p2, vR a3, vI (own_sel p2 fz (4 : Int32)), vI 2] [iI ((own_sel p2 fz (4 : Int32)) + (2 : Int32)), iR al])) rfl rfl (hb hby d7_40) _ ?_
          show Steps _ _ _ (T27.setTop (mkF m 41 #[vR a1, vI p2, vR a3, vI (own_sel p2 fz (4 : Int32)), vI 2] [iI (own_at x0 x1 x2 x3 x4 x5 x6 ((own_sel p2 fz (4 : Int32)) + (2 : Int32)))])) _
          refine XS.aloadN X27.here hx rfl (hb hby d7_41) rfl rfl ?_
          show Steps _ _ _ (T27.setTop (mkF m 42 #[vR a1, vI p2, vR a3, vI (own_sel p2 fz (4 : Int32)), vI 2] [iR a3, iI (own_at x0 x1 x2 x3 x4 x5 x6 ((own_sel p2 fz (4 : Int32)) + (2 : Int32)))])) _
          refine XS.iload X27.here hx rfl (hb hby d7_42) rfl ?_
          show Steps _ _ _ (T27.setTop (mkF m 44 #[vR a1, vI p2, vR a3, vI (own_sel p2 fz (4 : Int32)), vI 2] [iI 2, iR a3, iI (own_at x0 x1 x2 x3 x4 x5 x6 ((own_sel p2 fz (4 : Int32)) + (2 : Int32)))])) _
          refine X27.baloadBytes hx (j := (2 : Int32)) (v := (.int y2)) (by rw [e27]; exact Ar9.1) (State.isArrayOf_alike hZ.alike Ar9.2.1) Ar9.2.2 hin30 hat31 (g := (mkF m 44 #[vR a1, vI p2, vR a3, vI (own_sel p2 fz (4 : Int32)), vI 2] [iI 2, iR a3, iI (own_at x0 x1 x2 x3 x4 x5 x6 ((own_sel p2 fz (4 : Int32)) + (2 : Int32)))])) rfl rfl (hb hby d7_44) _ ?_
          exact kt
        by_cases hc32 : (own_at x0 x1 x2 x3 x4 x5 x6 ((own_sel p2 fz (4 : Int32)) + (2 : Int32))) = y2
        · obtain ⟨fs, hr, hrun, hended, hW, hsame⟩ := X27.leave (v := some (.int (1 : Int32))) (fun h => by rw [Bd.returns] at h; cases h)
          refine ⟨_, _, pre33 _ ?_, hrun, hended, _, _, rfl, ?_, ⟨_, rfl⟩, hW, hsame.mono (by decide) (by decide)⟩
          · show Steps _ _ _ (T27.setTop (mkF m 45 #[vR a1, vI p2, vR a3, vI (own_sel p2 fz (4 : Int32)), vI 2] [iI y2, iI (own_at x0 x1 x2 x3 x4 x5 x6 ((own_sel p2 fz (4 : Int32)) + (2 : Int32)))])) _
            refine XS.icmpYes X27.here hx rfl (pc0 := 45) (pc' := 50) rfl (hb hby d7_45) rfl (teq hc32).1 (by decide) (by decide) ?_
            show Steps _ _ _ (T27.setTop (mkF m 50 #[vR a1, vI p2, vR a3, vI (own_sel p2 fz (4 : Int32)), vI 2] [])) _
            refine XS.iinc X27.here hx rfl (hb hby d7_50) rfl (l' := #[vR a1, vI p2, vR a3, vI (own_sel p2 fz (4 : Int32)), vI ((2 : Int32) + (1 : Int32))]) rfl ?_
            rw [(by decide : ((2 : Int32) + (1 : Int32)) = (3 : Int32))]
            show Steps _ _ _ (T27.setTop (mkF m 53 #[vR a1, vI p2, vR a3, vI (own_sel p2 fz (4 : Int32)), vI 3] [])) _
            refine XS.goto X27.here hx rfl (pc0 := 53) (pc' := 25) rfl (hb hby d7_53) (by decide) (by decide) ?_
            show Steps _ _ _ (T27.setTop (mkF m 25 #[vR a1, vI p2, vR a3, vI (own_sel p2 fz (4 : Int32)), vI 3] [])) _
            refine XS.iload X27.here hx rfl (hb hby d7_25) rfl ?_
            show Steps _ _ _ (T27.setTop (mkF m 27 #[vR a1, vI p2, vR a3, vI (own_sel p2 fz (4 : Int32)), vI 3] [iI 3])) _
            refine XS.aloadN X27.here hx rfl (hb hby d7_27) rfl rfl ?_
            show Steps _ _ _ (T27.setTop (mkF m 28 #[vR a1, vI p2, vR a3, vI (own_sel p2 fz (4 : Int32)), vI 3] [iR a3, iI 3])) _
            refine X27.arraylength hx (by rw [e27]; exact Ar9.1) (State.isArrayOf_alike hZ.alike Ar9.2.1) (g := (mkF m 28 #[vR a1, vI p2, vR a3, vI (own_sel p2 fz (4 : Int32)), vI 3] [iR a3, iI 3])) rfl rfl (hb hby d7_28) _ ?_
            rw [len_of S9 M9]
            show Steps _ _ _ (T27.setTop (mkF m 29 #[vR a1, vI p2, vR a3, vI (own_sel p2 fz (4 : Int32)), vI 3] [iI 3, iI 3])) _
            refine XS.icmpYes X27.here hx rfl (pc0 := 29) (pc' := 56) rfl (hb hby d7_29) rfl (flt (by decide : ¬ ((3 : Int32) < (3 : Int32)))).2.1 (by decide) (by decide) ?_
            show Steps _ _ _ (T27.setTop (mkF m 56 #[vR a1, vI p2, vR a3, vI (own_sel p2 fz (4 : Int32)), vI 3] [])) _
            refine XS.iconst X27.here hx rfl (hb hby d7_56) ?_
            show Steps _ _ _ (T27.setTop (mkF m 57 #[vR a1, vI p2, vR a3, vI (own_sel p2 fz (4 : Int32)), vI 3] [iI 1])) _
            exact retN X27 hx (t := .boolean) Bd.returns (by simp) (hb hby d7_57) hr
          · show Q7_3 Z a1 p2 a3 s1 s2 al k1 k2 kl ke fz tz x0 x1 x2 x3 x4 x5 x6 y0 y1 y2 h0 _ T27.heap _
            rw [e27]
            exact ⟨by first | rfl | (simp only [own_is_3, if_pos hc10, if_pos hc18, if_pos hc25, if_pos hc32]; done) | (simp only [own_is_3, if_pos hc10, if_pos hc18, if_pos hc25, if_pos hc32]; rfl) | (simp only [own_is_3, if_pos hc10, if_pos hc18, if_pos hc25, if_pos hc32, nar] ; first | rfl | (simp; done) | decide), rfl, rfl⟩
        · obtain ⟨fs, hr, hrun, hended, hW, hsame⟩ := X27.leave (v := some (.int (0 : Int32))) (fun h => by rw [Bd.returns] at h; cases h)
          refine ⟨_, _, pre33 _ ?_, hrun, hended, _, _, rfl, ?_, ⟨_, rfl⟩, hW, hsame.mono (by decide) (by decide)⟩
          · show Steps _ _ _ (T27.setTop (mkF m 45 #[vR a1, vI p2, vR a3, vI (own_sel p2 fz (4 : Int32)), vI 2] [iI y2, iI (own_at x0 x1 x2 x3 x4 x5 x6 ((own_sel p2 fz (4 : Int32)) + (2 : Int32)))])) _
            refine XS.icmpNo X27.here hx rfl (hb hby d7_45) rfl (feq hc32).1 ?_
            show Steps _ _ _ (T27.setTop (mkF m 48 #[vR a1, vI p2, vR a3, vI (own_sel p2 fz (4 : Int32)), vI 2] [])) _
            refine XS.iconst X27.here hx rfl (hb hby d7_48) ?_
            show Steps _ _ _ (T27.setTop (mkF m 49 #[vR a1, vI p2, vR a3, vI (own_sel p2 fz (4 : Int32)), vI 2] [iI 0])) _
            exact retN X27 hx (t := .boolean) Bd.returns (by simp) (hb hby d7_49) hr
          · show Q7_3 Z a1 p2 a3 s1 s2 al k1 k2 kl ke fz tz x0 x1 x2 x3 x4 x5 x6 y0 y1 y2 h0 _ T27.heap _
            rw [e27]
            exact ⟨by first | rfl | (simp only [own_is_3, if_pos hc10, if_pos hc18, if_pos hc25, if_neg hc32]; done) | (simp only [own_is_3, if_pos hc10, if_pos hc18, if_pos hc25, if_neg hc32]; rfl) | (simp only [own_is_3, if_pos hc10, if_pos hc18, if_pos hc25, if_neg hc32, nar] ; first | rfl | (simp; done) | decide), rfl, rfl⟩
      · obtain ⟨fs, hr, hrun, hended, hW, hsame⟩ := X20.leave (v := some (.int (0 : Int32))) (fun h => by rw [Bd.returns] at h; cases h)
        refine ⟨_, _, pre26 _ ?_, hrun, hended, _, _, rfl, ?_, ⟨_, rfl⟩, hW, hsame.mono (by decide) (by decide)⟩
        · show Steps _ _ _ (T20.setTop (mkF m 45 #[vR a1, vI p2, vR a3, vI (own_sel p2 fz (4 : Int32)), vI 1] [iI y1, iI (own_at x0 x1 x2 x3 x4 x5 x6 ((own_sel p2 fz (4 : Int32)) + (1 : Int32)))])) _
          refine XS.icmpNo X20.here hx rfl (hb hby d7_45) rfl (feq hc25).1 ?_
          show Steps _ _ _ (T20.setTop (mkF m 48 #[vR a1, vI p2, vR a3, vI (own_sel p2 fz (4 : Int32)), vI 1] [])) _
          refine XS.iconst X20.here hx rfl (hb hby d7_48) ?_
          show Steps _ _ _ (T20.setTop (mkF m 49 #[vR a1, vI p2, vR a3, vI (own_sel p2 fz (4 : Int32)), vI 1] [iI 0])) _
          exact retN X20 hx (t := .boolean) Bd.returns (by simp) (hb hby d7_49) hr
        · show Q7_3 Z a1 p2 a3 s1 s2 al k1 k2 kl ke fz tz x0 x1 x2 x3 x4 x5 x6 y0 y1 y2 h0 _ T20.heap _
          rw [e20]
          exact ⟨by first | rfl | (simp only [own_is_3, if_pos hc10, if_pos hc18, if_neg hc25]; done) | (simp only [own_is_3, if_pos hc10, if_pos hc18, if_neg hc25]; rfl) | (simp only [own_is_3, if_pos hc10, if_pos hc18, if_neg hc25, nar] ; first | rfl | (simp; done) | decide), rfl, rfl⟩
    · obtain ⟨fs, hr, hrun, hended, hW, hsame⟩ := X12.leave (v := some (.int (0 : Int32))) (fun h => by rw [Bd.returns] at h; cases h)
      refine ⟨_, _, pre19 _ ?_, hrun, hended, _, _, rfl, ?_, ⟨_, rfl⟩, hW, hsame.mono (by decide) (by decide)⟩
      · show Steps _ _ _ (T12.setTop (mkF m 45 #[vR a1, vI p2, vR a3, vI (own_sel p2 fz (4 : Int32)), vI 0] [iI y0, iI (own_at x0 x1 x2 x3 x4 x5 x6 ((own_sel p2 fz (4 : Int32)) + (0 : Int32)))])) _
        refine XS.icmpNo X12.here hx rfl (hb hby d7_45) rfl (feq hc18).1 ?_
        show Steps _ _ _ (T12.setTop (mkF m 48 #[vR a1, vI p2, vR a3, vI (own_sel p2 fz (4 : Int32)), vI 0] [])) _
        refine XS.iconst X12.here hx rfl (hb hby d7_48) ?_
        show Steps _ _ _ (T12.setTop (mkF m 49 #[vR a1, vI p2, vR a3, vI (own_sel p2 fz (4 : Int32)), vI 0] [iI 0])) _
        exact retN X12 hx (t := .boolean) Bd.returns (by simp) (hb hby d7_49) hr
      · show Q7_3 Z a1 p2 a3 s1 s2 al k1 k2 kl ke fz tz x0 x1 x2 x3 x4 x5 x6 y0 y1 y2 h0 _ T12.heap _
        rw [e12]
        exact ⟨by first | rfl | (simp only [own_is_3, if_pos hc10, if_neg hc18]; done) | (simp only [own_is_3, if_pos hc10, if_neg hc18]; rfl) | (simp only [own_is_3, if_pos hc10, if_neg hc18, nar] ; first | rfl | (simp; done) | decide), rfl, rfl⟩
  · obtain ⟨fs, hr, hrun, hended, hW, hsame⟩ := X5.leave (v := some (.int (0 : Int32))) (fun h => by rw [Bd.returns] at h; cases h)
    refine ⟨_, _, pre11 _ ?_, hrun, hended, _, _, rfl, ?_, ⟨_, rfl⟩, hW, hsame.mono (by decide) (by decide)⟩
    · show Steps _ _ _ (T5.setTop (mkF m 17 #[vR a1, vI p2, vR a3, vI (own_sel p2 fz (4 : Int32)), .unset] [iI 3, iI ((own_sel p2 (3 : Int32) tz) - (own_sel p2 fz (4 : Int32)))])) _
      refine XS.icmpNo X5.here hx rfl (hb hby d7_17) rfl (feq hc10).1 ?_
      show Steps _ _ _ (T5.setTop (mkF m 20 #[vR a1, vI p2, vR a3, vI (own_sel p2 fz (4 : Int32)), .unset] [])) _
      refine XS.iconst X5.here hx rfl (hb hby d7_20) ?_
      show Steps _ _ _ (T5.setTop (mkF m 21 #[vR a1, vI p2, vR a3, vI (own_sel p2 fz (4 : Int32)), .unset] [iI 0])) _
      exact retN X5 hx (t := .boolean) Bd.returns (by simp) (hb hby d7_21) hr
    · show Q7_3 Z a1 p2 a3 s1 s2 al k1 k2 kl ke fz tz x0 x1 x2 x3 x4 x5 x6 y0 y1 y2 h0 _ T5.heap _
      rw [e5]
      exact ⟨by first | rfl | (simp only [own_is_3, if_neg hc10]; done) | (simp only [own_is_3, if_neg hc10]; rfl) | (simp only [own_is_3, if_neg hc10, nar] ; first | rfl | (simp; done) | decide), rfl, rfl⟩
theorem own_pin0 {p : Int32} (h : p = 0 ∨ p = 1 ∨ p = 2 ∨ p = 4) : ¬ (p + (0 : Int32)) < 0 ∧ (p + (0 : Int32)) < (7 : Int32) := by rcases h with rfl | rfl | rfl | rfl <;> decide
def own_pk_0 (p2 : Int32) (q3 : Int64) (p5 : Int32) (x0 : Int32) (x1 : Int32) (x2 : Int32) (x3 : Int32) (x4 : Int32) (x5 : Int32) (x6 : Int32) : Int32 := (nar .byte (if (((p5.toUInt32 >>> ((2 : Int32) &&& 31).toUInt32).toInt32) &&& (1 : Int32)) = (0 : Int32) then ((q3.toUInt64 >>> ((0 : Int32) &&& 0x3f).toInt64.toUInt64).toInt64).toInt32.toInt8.toInt32 else (own_at x0 x1 x2 x3 x4 x5 x6 (p2 + (0 : Int32)))))
theorem d8_0 : decode method_3_code 0 = .ok (.iload 5, 2) := by decide +kernel
theorem d8_2 : decode method_3_code 2 = .ok (.iconst 2, 1) := by decide +kernel
theorem d8_3 : decode method_3_code 3 = .ok (.iload 4, 2) := by decide +kernel
theorem d8_5 : decode method_3_code 5 = .ok (.iadd, 1) := by decide +kernel
theorem d8_6 : decode method_3_code 6 = .ok (.iushr, 1) := by decide +kernel
theorem d8_7 : decode method_3_code 7 = .ok (.iconst 1, 1) := by decide +kernel
theorem d8_8 : decode method_3_code 8 = .ok (.iand, 1) := by decide +kernel
theorem d8_9 : decode method_3_code 9 = .ok (.ifCond .eq 12, 3) := by decide +kernel
theorem d8_12 : decode method_3_code 12 = .ok (.aload_n 0, 1) := by decide +kernel
theorem d8_13 : decode method_3_code 13 = .ok (.iload_n 1, 1) := by decide +kernel
theorem d8_14 : decode method_3_code 14 = .ok (.iload 4, 2) := by decide +kernel
theorem d8_16 : decode method_3_code 16 = .ok (.iadd, 1) := by decide +kernel
theorem d8_17 : decode method_3_code 17 = .ok (.baload, 1) := by decide +kernel
theorem d8_18 : decode method_3_code 18 = .ok (.goto 12, 3) := by decide +kernel
theorem d8_21 : decode method_3_code 21 = .ok (.lload_n 2, 1) := by decide +kernel
theorem d8_22 : decode method_3_code 22 = .ok (.bipush 8, 2) := by decide +kernel
theorem d8_24 : decode method_3_code 24 = .ok (.iload 4, 2) := by decide +kernel
theorem d8_26 : decode method_3_code 26 = .ok (.imul, 1) := by decide +kernel
theorem d8_27 : decode method_3_code 27 = .ok (.lushr, 1) := by decide +kernel
theorem d8_28 : decode method_3_code 28 = .ok (.l2i, 1) := by decide +kernel
theorem d8_29 : decode method_3_code 29 = .ok (.i2b, 1) := by decide +kernel
theorem d8_30 : decode method_3_code 30 = .ok (.ireturn, 1) := by decide +kernel
theorem ef_8_0 (m : MethodId) (x0 : Addr) (x1 : Int32) (x2 : Int64) (x4 : Int32) : entryFrame m #[(.ref x0), (.int x1), (.long x2), (.int (0 : Int32)), (.int x4)] 6 = mkF m 0 #[.val (.ref x0), .val (.int x1), .val (.long x2), .second, .val (.int (0 : Int32)), .val (.int x4)] [] := by first | (simp [entryFrame, mkF, argsToLocals, Value.category]; done) | rfl
def Q8_0 (Z : State) (a1 : Addr) (p2 : Int32) (q3 : Int64) (p5 : Int32) (kl : ClassId) (x0 : Int32) (x1 : Int32) (x2 : Int32) (x3 : Int32) (x4 : Int32) (x5 : Int32) (x6 : Int32) (h0 : Heap) (v : Option Value) (h : Heap) (L : List Loc) : Prop := v = some (.int (own_pk_0 p2 q3 p5 x0 x1 x2 x3 x4 x5 x6)) ∧ L = [] ∧ h = h0
set_option maxRecDepth 65536 in
set_option maxHeartbeats 40000000 in
theorem rm8_0 (l : Launch) (Z : State) (a0 : Array Value) (hw : ∀ d ∈ tables_1, d.before a0 Z = true) (ws : List Jvm.Cond) (a1 : Addr) (p2 : Int32) (q3 : Int64) (p5 : Int32) (kl : ClassId) (x0 : Int32) (x1 : Int32) (x2 : Int32) (x3 : Int32) (x4 : Int32) (x5 : Int32) (x6 : Int32) (h0 : Heap) (V_l : Arv Z h0 a1 kl .byte (7 : Int32) [(.int x0), (.int x1), (.int x2), (.int x3), (.int x4), (.int x5), (.int x6)] (.int (0 : Int32))) (ha : p2 = 0 ∨ p2 = 1 ∨ p2 = 2 ∨ p2 = 4) :
    MetFree l (⟨"com/example/tidemine/tidemine/TokensIsPinLaw", "pick", "([BIJII)B"⟩ : MethodName) (head1 (Jvm.Cond.code (⟨"com/example/tidemine/tidemine/TokensIsPinLaw", "pick", "([BIJII)B"⟩ : MethodName) method_3_code 6 (some .byte) :: ws) ({ frames := 0, cells := 0, slots := 0, locals := 0 } : Room)) (fun a U => a = #[(.ref a1), (.int p2), (.long q3), (.int (0 : Int32)), (.int p5)] ∧ Z.Warmed39 U.vm ∧ U.heap = h0) (fun _ _ _ _ _ => True) (fun _ U o U' => ∃ v L, o = .returned v ∧ Q8_0 Z a1 p2 q3 p5 kl x0 x1 x2 x3 x4 x5 x6 h0 v U'.heap L ∧ FrameEnd U o U' L ({ frames := 0, cells := 0, slots := 0, locals := 0 } : Room).cells ({ frames := 0, cells := 0, slots := 0, locals := 0 } : Room).slots) := by
  refine MetFree.of_bodySF (plainFor_of_name pn_0) hisR ?_
  intro p e s m args below meth c s₁ Bd hml0 hP hK
  obtain ⟨rfl, hZ, hh⟩ := hP
  have hx := Bd.exec
  have hby := Bd.bytes
  have hml : c.maxLocals = 6 := hml0
  have hown : s.vm.findClass "com/example/tidemine/tidemine/TokensIsPinLaw" = some m.cls := findClass_of_methodNamed Bd.named
  have hnm := (name_of_methodNamed Bd.named Bd.method).1
  have X0 : Stand p l e ({ frames := 0, cells := 0, slots := 0, locals := 0 } : Room) s m #[(.ref a1), (.int p2), (.long q3), (.int (0 : Int32)), (.int p5)] below meth c s₁ [] 0 0 := Stand.of_body Bd
  have e0 : s₁.heap = h0 := by rw [← hh, Bd.state]; rfl
  have pre0 : ∀ t, Steps p.tables e below (s₁.setTop (mkF m 0 #[.val (.ref a1), .val (.int p2), .val (.long q3), .second, .val (.int (0 : Int32)), .val (.int p5)] [])) t → Steps p.tables e below (s₁.setTop (entryFrame m #[(.ref a1), (.int p2), (.long q3), (.int (0 : Int32)), (.int p5)] 6)) t := fun t k => castTop (ef_8_0 m a1 p2 q3 p5) k
  obtain ⟨v1, hv1⟩ : ∃ z : Int32, z = (if (((p5.toUInt32 >>> ((2 : Int32) &&& 31).toUInt32).toInt32) &&& (1 : Int32)) = (0 : Int32) then ((q3.toUInt64 >>> ((0 : Int32) &&& 0x3f).toInt64.toUInt64).toInt64).toInt32.toInt8.toInt32 else (own_at x0 x1 x2 x3 x4 x5 x6 (p2 + (0 : Int32)))) := ⟨_, rfl⟩
  obtain ⟨T2, X2, e2, st2⟩ : own_Mid X0 h0 (mkF m 9 #[vR a1, vI p2, vJ q3, .second, vI 0, vI p5] [iI (((p5.toUInt32 >>> ((2 : Int32) &&& 31).toUInt32).toInt32) &&& (1 : Int32))]) (mkF m 30 #[vR a1, vI p2, vJ q3, .second, vI 0, vI p5] [iI v1]) := by
    by_cases hc3 : (((p5.toUInt32 >>> ((2 : Int32) &&& 31).toUInt32).toInt32) &&& (1 : Int32)) = (0 : Int32)
    · refine ⟨s₁, X0, e0, fun t kt => ?_⟩
      subst hv1
      simp only [if_pos hc3] at kt
      show Steps _ _ _ (s₁.setTop (mkF m 9 #[vR a1, vI p2, vJ q3, .second, vI 0, vI p5] [iI (((p5.toUInt32 >>> ((2 : Int32) &&& 31).toUInt32).toInt32) &&& (1 : Int32))])) _
      refine XS.ifYes X0.here hx rfl (pc0 := 9) (pc' := 21) rfl (hb hby d8_9) rfl ((if0 _ _).trans (teq hc3).1) (by decide) (by decide) ?_
      show Steps _ _ _ (s₁.setTop (mkF m 21 #[vR a1, vI p2, vJ q3, .second, vI 0, vI p5] [])) _
      refine XS.lloadN X0.here hx rfl (hb hby d8_21) rfl ?_
      show Steps _ _ _ (s₁.setTop (mkF m 22 #[vR a1, vI p2, vJ q3, .second, vI 0, vI p5] [iJ q3])) _
      refine XS.bipush X0.here hx rfl (hb hby d8_22) ?_
      show Steps _ _ _ (s₁.setTop (mkF m 24 #[vR a1, vI p2, vJ q3, .second, vI 0, vI p5] [iI 8, iJ q3])) _
      refine XS.iload X0.here hx rfl (hb hby d8_24) rfl ?_
      show Steps _ _ _ (s₁.setTop (mkF m 26 #[vR a1, vI p2, vJ q3, .second, vI 0, vI p5] [iI 0, iI 8, iJ q3])) _
      refine XS.imul X0.here hx rfl (hb hby d8_26) rfl ?_
      rw [(by decide : ((8 : Int32) * (0 : Int32)) = (0 : Int32))]
      show Steps _ _ _ (s₁.setTop (mkF m 27 #[vR a1, vI p2, vJ q3, .second, vI 0, vI p5] [iI 0, iJ q3])) _
      refine XS.lushr X0.here hx rfl (hb hby d8_27) rfl ?_
      show Steps _ _ _ (s₁.setTop (mkF m 28 #[vR a1, vI p2, vJ q3, .second, vI 0, vI p5] [iJ ((q3.toUInt64 >>> ((0 : Int32) &&& 0x3f).toInt64.toUInt64).toInt64)])) _
      refine XS.l2i X0.here hx rfl (hb hby d8_28) rfl ?_
      show Steps _ _ _ (s₁.setTop (mkF m 29 #[vR a1, vI p2, vJ q3, .second, vI 0, vI p5] [iI ((q3.toUInt64 >>> ((0 : Int32) &&& 0x3f).toInt64.toUInt64).toInt64).toInt32])) _
      refine XS.i2b X0.here hx rfl (hb hby d8_29) rfl ?_
      exact kt
    · obtain ⟨cl4, Ar4, q4, S4, M4, H4, G4⟩ := id V_l
      have hin5 : ¬ ((p2 + (0 : Int32)) < 0 ∨ cl4.slots.size ≤ ((p2 + (0 : Int32))).toNatClampNeg) := inb_of S4 (own_pin0 ha)
      have hat6 : cl4.slots[((p2 + (0 : Int32))).toNatClampNeg]? = some (.int (own_at x0 x1 x2 x3 x4 x5 x6 (p2 + (0 : Int32)))) := Has.at H4 hin5 (own_atL (own_pin0 ha))
      refine ⟨s₁, X0, e0, fun t kt => ?_⟩
      subst hv1
      simp only [if_neg hc3] at kt
      show Steps _ _ _ (s₁.setTop (mkF m 9 #[vR a1, vI p2, vJ q3, .second, vI 0, vI p5] [iI (((p5.toUInt32 >>> ((2 : Int32) &&& 31).toUInt32).toInt32) &&& (1 : Int32))])) _
      refine XS.ifNo X0.here hx rfl (hb hby d8_9) rfl ((if0 _ _).trans (feq hc3).1) ?_
      show Steps _ _ _ (s₁.setTop (mkF m 12 #[vR a1, vI p2, vJ q3, .second, vI 0, vI p5] [])) _
      refine XS.aloadN X0.here hx rfl (hb hby d8_12) rfl rfl ?_
      show Steps _ _ _ (s₁.setTop (mkF m 13 #[vR a1, vI p2, vJ q3, .second, vI 0, vI p5] [iR a1])) _
      refine XS.iloadN X0.here hx rfl (hb hby d8_13) rfl ?_
      show Steps _ _ _ (s₁.setTop (mkF m 14 #[vR a1, vI p2, vJ q3, .second, vI 0, vI p5] [iI p2, iR a1])) _
      refine XS.iload X0.here hx rfl (hb hby d8_14) rfl ?_
      show Steps _ _ _ (s₁.setTop (mkF m 16 #[vR a1, vI p2, vJ q3, .second, vI 0, vI p5] [iI 0, iI p2, iR a1])) _
      refine XS.iadd X0.here hx rfl (hb hby d8_16) rfl ?_
      show Steps _ _ _ (s₁.setTop (mkF m 17 #[vR a1, vI p2, vJ q3, .second, vI 0, vI p5] [iI (p2 + (0 : Int32)), iR a1])) _
      refine X0.baloadBytes hx (j := (p2 + (0 : Int32))) (v := (.int (own_at x0 x1 x2 x3 x4 x5 x6 (p2 + (0 : Int32))))) (by rw [e0]; exact Ar4.1) (State.isArrayOf_alike hZ.alike Ar4.2.1) Ar4.2.2 hin5 hat6 (g := (mkF m 17 #[vR a1, vI p2, vJ q3, .second, vI 0, vI p5] [iI (p2 + (0 : Int32)), iR a1])) rfl rfl (hb hby d8_17) _ ?_
      show Steps _ _ _ (s₁.setTop (mkF m 18 #[vR a1, vI p2, vJ q3, .second, vI 0, vI p5] [iI (own_at x0 x1 x2 x3 x4 x5 x6 (p2 + (0 : Int32)))])) _
      refine XS.goto X0.here hx rfl (pc0 := 18) (pc' := 30) rfl (hb hby d8_18) (by decide) (by decide) ?_
      exact kt
  obtain ⟨fs, hr, hrun, hended, hW, hsame⟩ := X2.leave (v := some (.int (nar .byte v1))) (fun h => by rw [Bd.returns] at h; cases h)
  refine ⟨_, _, pre0 _ ?_, hrun, hended, _, _, rfl, ?_, ⟨_, rfl⟩, hW, hsame.mono (by decide) (by decide)⟩
  · show Steps _ _ _ (s₁.setTop (mkF m 0 #[vR a1, vI p2, vJ q3, .second, vI 0, vI p5] [])) _
    refine XS.iload X0.here hx rfl (hb hby d8_0) rfl ?_
    show Steps _ _ _ (s₁.setTop (mkF m 2 #[vR a1, vI p2, vJ q3, .second, vI 0, vI p5] [iI p5])) _
    refine XS.iconst X0.here hx rfl (hb hby d8_2) ?_
    show Steps _ _ _ (s₁.setTop (mkF m 3 #[vR a1, vI p2, vJ q3, .second, vI 0, vI p5] [iI 2, iI p5])) _
    refine XS.iload X0.here hx rfl (hb hby d8_3) rfl ?_
    show Steps _ _ _ (s₁.setTop (mkF m 5 #[vR a1, vI p2, vJ q3, .second, vI 0, vI p5] [iI 0, iI 2, iI p5])) _
    refine XS.iadd X0.here hx rfl (hb hby d8_5) rfl ?_
    rw [(by decide : ((2 : Int32) + (0 : Int32)) = (2 : Int32))]
    show Steps _ _ _ (s₁.setTop (mkF m 6 #[vR a1, vI p2, vJ q3, .second, vI 0, vI p5] [iI 2, iI p5])) _
    refine XS.iushr X0.here hx rfl (hb hby d8_6) rfl ?_
    show Steps _ _ _ (s₁.setTop (mkF m 7 #[vR a1, vI p2, vJ q3, .second, vI 0, vI p5] [iI ((p5.toUInt32 >>> ((2 : Int32) &&& 31).toUInt32).toInt32)])) _
    refine XS.iconst X0.here hx rfl (hb hby d8_7) ?_
    show Steps _ _ _ (s₁.setTop (mkF m 8 #[vR a1, vI p2, vJ q3, .second, vI 0, vI p5] [iI 1, iI ((p5.toUInt32 >>> ((2 : Int32) &&& 31).toUInt32).toInt32)])) _
    refine XS.iand X0.here hx rfl (hb hby d8_8) rfl ?_
    show Steps _ _ _ (s₁.setTop (mkF m 9 #[vR a1, vI p2, vJ q3, .second, vI 0, vI p5] [iI (((p5.toUInt32 >>> ((2 : Int32) &&& 31).toUInt32).toInt32) &&& (1 : Int32))])) _
    refine st2 _ ?_
    show Steps _ _ _ (T2.setTop (mkF m 30 #[vR a1, vI p2, vJ q3, .second, vI 0, vI p5] [iI v1])) _
    exact retN X2 hx (t := .byte) Bd.returns (by simp) (hb hby d8_30) hr
  · show Q8_0 Z a1 p2 q3 p5 kl x0 x1 x2 x3 x4 x5 x6 h0 _ T2.heap _
    rw [e2]
    exact ⟨by subst hv1; first | rfl | (simp only [own_pk_0]; done) | (simp only [own_pk_0]; rfl) | (simp only [own_pk_0, nar] ; first | rfl | (simp; done) | decide), rfl, rfl⟩
theorem own_pin1 {p : Int32} (h : p = 0 ∨ p = 1 ∨ p = 2 ∨ p = 4) : ¬ (p + (1 : Int32)) < 0 ∧ (p + (1 : Int32)) < (7 : Int32) := by rcases h with rfl | rfl | rfl | rfl <;> decide
def own_pk_1 (p2 : Int32) (q3 : Int64) (p5 : Int32) (x0 : Int32) (x1 : Int32) (x2 : Int32) (x3 : Int32) (x4 : Int32) (x5 : Int32) (x6 : Int32) : Int32 := (nar .byte (if (((p5.toUInt32 >>> ((3 : Int32) &&& 31).toUInt32).toInt32) &&& (1 : Int32)) = (0 : Int32) then ((q3.toUInt64 >>> ((8 : Int32) &&& 0x3f).toInt64.toUInt64).toInt64).toInt32.toInt8.toInt32 else (own_at x0 x1 x2 x3 x4 x5 x6 (p2 + (1 : Int32)))))
theorem ef_8_1 (m : MethodId) (x0 : Addr) (x1 : Int32) (x2 : Int64) (x4 : Int32) : entryFrame m #[(.ref x0), (.int x1), (.long x2), (.int (1 : Int32)), (.int x4)] 6 = mkF m 0 #[.val (.ref x0), .val (.int x1), .val (.long x2), .second, .val (.int (1 : Int32)), .val (.int x4)] [] := by first | (simp [entryFrame, mkF, argsToLocals, Value.category]; done) | rfl
def Q8_1 (Z : State) (a1 : Addr) (p2 : Int32) (q3 : Int64) (p5 : Int32) (kl : ClassId) (x0 : Int32) (x1 : Int32) (x2 : Int32) (x3 : Int32) (x4 : Int32) (x5 : Int32) (x6 : Int32) (h0 : Heap) (v : Option Value) (h : Heap) (L : List Loc) : Prop := v = some (.int (own_pk_1 p2 q3 p5 x0 x1 x2 x3 x4 x5 x6)) ∧ L = [] ∧ h = h0
set_option maxRecDepth 65536 in
set_option maxHeartbeats 40000000 in
theorem rm8_1 (l : Launch) (Z : State) (a0 : Array Value) (hw : ∀ d ∈ tables_1, d.before a0 Z = true) (ws : List Jvm.Cond) (a1 : Addr) (p2 : Int32) (q3 : Int64) (p5 : Int32) (kl : ClassId) (x0 : Int32) (x1 : Int32) (x2 : Int32) (x3 : Int32) (x4 : Int32) (x5 : Int32) (x6 : Int32) (h0 : Heap) (V_l : Arv Z h0 a1 kl .byte (7 : Int32) [(.int x0), (.int x1), (.int x2), (.int x3), (.int x4), (.int x5), (.int x6)] (.int (0 : Int32))) (ha : p2 = 0 ∨ p2 = 1 ∨ p2 = 2 ∨ p2 = 4) :
    MetFree l (⟨"com/example/tidemine/tidemine/TokensIsPinLaw", "pick", "([BIJII)B"⟩ : MethodName) (head1 (Jvm.Cond.code (⟨"com/example/tidemine/tidemine/TokensIsPinLaw", "pick", "([BIJII)B"⟩ : MethodName) method_3_code 6 (some .byte) :: ws) ({ frames := 0, cells := 0, slots := 0, locals := 0 } : Room)) (fun a U => a = #[(.ref a1), (.int p2), (.long q3), (.int (1 : Int32)), (.int p5)] ∧ Z.Warmed39 U.vm ∧ U.heap = h0) (fun _ _ _ _ _ => True) (fun _ U o U' => ∃ v L, o = .returned v ∧ Q8_1 Z a1 p2 q3 p5 kl x0 x1 x2 x3 x4 x5 x6 h0 v U'.heap L ∧ FrameEnd U o U' L ({ frames := 0, cells := 0, slots := 0, locals := 0 } : Room).cells ({ frames := 0, cells := 0, slots := 0, locals := 0 } : Room).slots) := by
  refine MetFree.of_bodySF (plainFor_of_name pn_0) hisR ?_
  intro p e s m args below meth c s₁ Bd hml0 hP hK
  obtain ⟨rfl, hZ, hh⟩ := hP
  have hx := Bd.exec
  have hby := Bd.bytes
  have hml : c.maxLocals = 6 := hml0
  have hown : s.vm.findClass "com/example/tidemine/tidemine/TokensIsPinLaw" = some m.cls := findClass_of_methodNamed Bd.named
  have hnm := (name_of_methodNamed Bd.named Bd.method).1
  have X0 : Stand p l e ({ frames := 0, cells := 0, slots := 0, locals := 0 } : Room) s m #[(.ref a1), (.int p2), (.long q3), (.int (1 : Int32)), (.int p5)] below meth c s₁ [] 0 0 := Stand.of_body Bd
  have e0 : s₁.heap = h0 := by rw [← hh, Bd.state]; rfl
  have pre0 : ∀ t, Steps p.tables e below (s₁.setTop (mkF m 0 #[.val (.ref a1), .val (.int p2), .val (.long q3), .second, .val (.int (1 : Int32)), .val (.int p5)] [])) t → Steps p.tables e below (s₁.setTop (entryFrame m #[(.ref a1), (.int p2), (.long q3), (.int (1 : Int32)), (.int p5)] 6)) t := fun t k => castTop (ef_8_1 m a1 p2 q3 p5) k
  obtain ⟨v1, hv1⟩ : ∃ z : Int32, z = (if (((p5.toUInt32 >>> ((3 : Int32) &&& 31).toUInt32).toInt32) &&& (1 : Int32)) = (0 : Int32) then ((q3.toUInt64 >>> ((8 : Int32) &&& 0x3f).toInt64.toUInt64).toInt64).toInt32.toInt8.toInt32 else (own_at x0 x1 x2 x3 x4 x5 x6 (p2 + (1 : Int32)))) := ⟨_, rfl⟩
  obtain ⟨T2, X2, e2, st2⟩ : own_Mid X0 h0 (mkF m 9 #[vR a1, vI p2, vJ q3, .second, vI 1, vI p5] [iI (((p5.toUInt32 >>> ((3 : Int32) &&& 31).toUInt32).toInt32) &&& (1 : Int32))]) (mkF m 30 #[vR a1, vI p2, vJ q3, .second, vI 1, vI p5] [iI v1]) := by
    by_cases hc3 : (((p5.toUInt32 >>> ((3 : Int32) &&& 31).toUInt32).toInt32) &&& (1 : Int32)) = (0 : Int32)
    · refine ⟨s₁, X0, e0, fun t kt => ?_⟩
      subst hv1
      simp only [if_pos hc3] at kt
      show Steps _ _ _ (s₁.setTop (mkF m 9 #[vR a1, vI p2, vJ q3, .second, vI 1, vI p5] [iI (((p5.toUInt32 >>> ((3 : Int32) &&& 31).toUInt32).toInt32) &&& (1 : Int32))])) _
      refine XS.ifYes X0.here hx rfl (pc0 := 9) (pc' := 21) rfl (hb hby d8_9) rfl ((if0 _ _).trans (teq hc3).1) (by decide) (by decide) ?_
      show Steps _ _ _ (s₁.setTop (mkF m 21 #[vR a1, vI p2, vJ q3, .second, vI 1, vI p5] [])) _
      refine XS.lloadN X0.here hx rfl (hb hby d8_21) rfl ?_
      show Steps _ _ _ (s₁.setTop (mkF m 22 #[vR a1, vI p2, vJ q3, .second, vI 1, vI p5] [iJ q3])) _
      refine XS.bipush X0.here hx rfl (hb hby d8_22) ?_
      show Steps _ _ _ (s₁.setTop (mkF m 24 #[vR a1, vI p2, vJ q3, .second, vI 1, vI p5] [iI 8, iJ q3])) _
      refine XS.iload X0.here hx rfl (hb hby d8_24) rfl ?_
      show Steps _ _ _ (s₁.setTop (mkF m 26 #[vR a1, vI p2, vJ q3, .second, vI 1, vI p5] [iI 1, iI 8, iJ q3])) _
      refine XS.imul X0.here hx rfl (hb hby d8_26) rfl ?_
      rw [(by decide : ((8 : Int32) * (1 : Int32)) = (8 : Int32))]
      show Steps _ _ _ (s₁.setTop (mkF m 27 #[vR a1, vI p2, vJ q3, .second, vI 1, vI p5] [iI 8, iJ q3])) _
      refine XS.lushr X0.here hx rfl (hb hby d8_27) rfl ?_
      show Steps _ _ _ (s₁.setTop (mkF m 28 #[vR a1, vI p2, vJ q3, .second, vI 1, vI p5] [iJ ((q3.toUInt64 >>> ((8 : Int32) &&& 0x3f).toInt64.toUInt64).toInt64)])) _
      refine XS.l2i X0.here hx rfl (hb hby d8_28) rfl ?_
      show Steps _ _ _ (s₁.setTop (mkF m 29 #[vR a1, vI p2, vJ q3, .second, vI 1, vI p5] [iI ((q3.toUInt64 >>> ((8 : Int32) &&& 0x3f).toInt64.toUInt64).toInt64).toInt32])) _
      refine XS.i2b X0.here hx rfl (hb hby d8_29) rfl ?_
      exact kt
    · obtain ⟨cl4, Ar4, q4, S4, M4, H4, G4⟩ := id V_l
      have hin5 : ¬ ((p2 + (1 : Int32)) < 0 ∨ cl4.slots.size ≤ ((p2 + (1 : Int32))).toNatClampNeg) := inb_of S4 (own_pin1 ha)
      have hat6 : cl4.slots[((p2 + (1 : Int32))).toNatClampNeg]? = some (.int (own_at x0 x1 x2 x3 x4 x5 x6 (p2 + (1 : Int32)))) := Has.at H4 hin5 (own_atL (own_pin1 ha))
      refine ⟨s₁, X0, e0, fun t kt => ?_⟩
      subst hv1
      simp only [if_neg hc3] at kt
      show Steps _ _ _ (s₁.setTop (mkF m 9 #[vR a1, vI p2, vJ q3, .second, vI 1, vI p5] [iI (((p5.toUInt32 >>> ((3 : Int32) &&& 31).toUInt32).toInt32) &&& (1 : Int32))])) _
      refine XS.ifNo X0.here hx rfl (hb hby d8_9) rfl ((if0 _ _).trans (feq hc3).1) ?_
      show Steps _ _ _ (s₁.setTop (mkF m 12 #[vR a1, vI p2, vJ q3, .second, vI 1, vI p5] [])) _
      refine XS.aloadN X0.here hx rfl (hb hby d8_12) rfl rfl ?_
      show Steps _ _ _ (s₁.setTop (mkF m 13 #[vR a1, vI p2, vJ q3, .second, vI 1, vI p5] [iR a1])) _
      refine XS.iloadN X0.here hx rfl (hb hby d8_13) rfl ?_
      show Steps _ _ _ (s₁.setTop (mkF m 14 #[vR a1, vI p2, vJ q3, .second, vI 1, vI p5] [iI p2, iR a1])) _
      refine XS.iload X0.here hx rfl (hb hby d8_14) rfl ?_
      show Steps _ _ _ (s₁.setTop (mkF m 16 #[vR a1, vI p2, vJ q3, .second, vI 1, vI p5] [iI 1, iI p2, iR a1])) _
      refine XS.iadd X0.here hx rfl (hb hby d8_16) rfl ?_
      show Steps _ _ _ (s₁.setTop (mkF m 17 #[vR a1, vI p2, vJ q3, .second, vI 1, vI p5] [iI (p2 + (1 : Int32)), iR a1])) _
      refine X0.baloadBytes hx (j := (p2 + (1 : Int32))) (v := (.int (own_at x0 x1 x2 x3 x4 x5 x6 (p2 + (1 : Int32))))) (by rw [e0]; exact Ar4.1) (State.isArrayOf_alike hZ.alike Ar4.2.1) Ar4.2.2 hin5 hat6 (g := (mkF m 17 #[vR a1, vI p2, vJ q3, .second, vI 1, vI p5] [iI (p2 + (1 : Int32)), iR a1])) rfl rfl (hb hby d8_17) _ ?_
      show Steps _ _ _ (s₁.setTop (mkF m 18 #[vR a1, vI p2, vJ q3, .second, vI 1, vI p5] [iI (own_at x0 x1 x2 x3 x4 x5 x6 (p2 + (1 : Int32)))])) _
      refine XS.goto X0.here hx rfl (pc0 := 18) (pc' := 30) rfl (hb hby d8_18) (by decide) (by decide) ?_
      exact kt
  obtain ⟨fs, hr, hrun, hended, hW, hsame⟩ := X2.leave (v := some (.int (nar .byte v1))) (fun h => by rw [Bd.returns] at h; cases h)
  refine ⟨_, _, pre0 _ ?_, hrun, hended, _, _, rfl, ?_, ⟨_, rfl⟩, hW, hsame.mono (by decide) (by decide)⟩
  · show Steps _ _ _ (s₁.setTop (mkF m 0 #[vR a1, vI p2, vJ q3, .second, vI 1, vI p5] [])) _
    refine XS.iload X0.here hx rfl (hb hby d8_0) rfl ?_
    show Steps _ _ _ (s₁.setTop (mkF m 2 #[vR a1, vI p2, vJ q3, .second, vI 1, vI p5] [iI p5])) _
    refine XS.iconst X0.here hx rfl (hb hby d8_2) ?_
    show Steps _ _ _ (s₁.setTop (mkF m 3 #[vR a1, vI p2, vJ q3, .second, vI 1, vI p5] [iI 2, iI p5])) _
    refine XS.iload X0.here hx rfl (hb hby d8_3) rfl ?_
    show Steps _ _ _ (s₁.setTop (mkF m 5 #[vR a1, vI p2, vJ q3, .second, vI 1, vI p5] [iI 1, iI 2, iI p5])) _
    refine XS.iadd X0.here hx rfl (hb hby d8_5) rfl ?_
    rw [(by decide : ((2 : Int32) + (1 : Int32)) = (3 : Int32))]
    show Steps _ _ _ (s₁.setTop (mkF m 6 #[vR a1, vI p2, vJ q3, .second, vI 1, vI p5] [iI 3, iI p5])) _
    refine XS.iushr X0.here hx rfl (hb hby d8_6) rfl ?_
    show Steps _ _ _ (s₁.setTop (mkF m 7 #[vR a1, vI p2, vJ q3, .second, vI 1, vI p5] [iI ((p5.toUInt32 >>> ((3 : Int32) &&& 31).toUInt32).toInt32)])) _
    refine XS.iconst X0.here hx rfl (hb hby d8_7) ?_
    show Steps _ _ _ (s₁.setTop (mkF m 8 #[vR a1, vI p2, vJ q3, .second, vI 1, vI p5] [iI 1, iI ((p5.toUInt32 >>> ((3 : Int32) &&& 31).toUInt32).toInt32)])) _
    refine XS.iand X0.here hx rfl (hb hby d8_8) rfl ?_
    show Steps _ _ _ (s₁.setTop (mkF m 9 #[vR a1, vI p2, vJ q3, .second, vI 1, vI p5] [iI (((p5.toUInt32 >>> ((3 : Int32) &&& 31).toUInt32).toInt32) &&& (1 : Int32))])) _
    refine st2 _ ?_
    show Steps _ _ _ (T2.setTop (mkF m 30 #[vR a1, vI p2, vJ q3, .second, vI 1, vI p5] [iI v1])) _
    exact retN X2 hx (t := .byte) Bd.returns (by simp) (hb hby d8_30) hr
  · show Q8_1 Z a1 p2 q3 p5 kl x0 x1 x2 x3 x4 x5 x6 h0 _ T2.heap _
    rw [e2]
    exact ⟨by subst hv1; first | rfl | (simp only [own_pk_1]; done) | (simp only [own_pk_1]; rfl) | (simp only [own_pk_1, nar] ; first | rfl | (simp; done) | decide), rfl, rfl⟩
theorem own_pin2 {p : Int32} (h : p = 0 ∨ p = 1 ∨ p = 2 ∨ p = 4) : ¬ (p + (2 : Int32)) < 0 ∧ (p + (2 : Int32)) < (7 : Int32) := by rcases h with rfl | rfl | rfl | rfl <;> decide
def own_pk_2 (p2 : Int32) (q3 : Int64) (p5 : Int32) (x0 : Int32) (x1 : Int32) (x2 : Int32) (x3 : Int32) (x4 : Int32) (x5 : Int32) (x6 : Int32) : Int32 := (nar .byte (if (((p5.toUInt32 >>> ((4 : Int32) &&& 31).toUInt32).toInt32) &&& (1 : Int32)) = (0 : Int32) then ((q3.toUInt64 >>> ((16 : Int32) &&& 0x3f).toInt64.toUInt64).toInt64).toInt32.toInt8.toInt32 else (own_at x0 x1 x2 x3 x4 x5 x6 (p2 + (2 : Int32)))))
theorem ef_8_2 (m : MethodId) (x0 : Addr) (x1 : Int32) (x2 : Int64) (x4 : Int32) : entryFrame m #[(.ref x0), (.int x1), (.long x2), (.int (2 : Int32)), (.int x4)] 6 = mkF m 0 #[.val (.ref x0), .val (.int x1), .val (.long x2), .second, .val (.int (2 : Int32)), .val (.int x4)] [] := by first | (simp [entryFrame, mkF, argsToLocals, Value.category]; done) | rfl
def Q8_2 (Z : State) (a1 : Addr) (p2 : Int32) (q3 : Int64) (p5 : Int32) (kl : ClassId) (x0 : Int32) (x1 : Int32) (x2 : Int32) (x3 : Int32) (x4 : Int32) (x5 : Int32) (x6 : Int32) (h0 : Heap) (v : Option Value) (h : Heap) (L : List Loc) : Prop := v = some (.int (own_pk_2 p2 q3 p5 x0 x1 x2 x3 x4 x5 x6)) ∧ L = [] ∧ h = h0
set_option maxRecDepth 65536 in
set_option maxHeartbeats 40000000 in
theorem rm8_2 (l : Launch) (Z : State) (a0 : Array Value) (hw : ∀ d ∈ tables_1, d.before a0 Z = true) (ws : List Jvm.Cond) (a1 : Addr) (p2 : Int32) (q3 : Int64) (p5 : Int32) (kl : ClassId) (x0 : Int32) (x1 : Int32) (x2 : Int32) (x3 : Int32) (x4 : Int32) (x5 : Int32) (x6 : Int32) (h0 : Heap) (V_l : Arv Z h0 a1 kl .byte (7 : Int32) [(.int x0), (.int x1), (.int x2), (.int x3), (.int x4), (.int x5), (.int x6)] (.int (0 : Int32))) (ha : p2 = 0 ∨ p2 = 1 ∨ p2 = 2 ∨ p2 = 4) :
    MetFree l (⟨"com/example/tidemine/tidemine/TokensIsPinLaw", "pick", "([BIJII)B"⟩ : MethodName) (head1 (Jvm.Cond.code (⟨"com/example/tidemine/tidemine/TokensIsPinLaw", "pick", "([BIJII)B"⟩ : MethodName) method_3_code 6 (some .byte) :: ws) ({ frames := 0, cells := 0, slots := 0, locals := 0 } : Room)) (fun a U => a = #[(.ref a1), (.int p2), (.long q3), (.int (2 : Int32)), (.int p5)] ∧ Z.Warmed39 U.vm ∧ U.heap = h0) (fun _ _ _ _ _ => True) (fun _ U o U' => ∃ v L, o = .returned v ∧ Q8_2 Z a1 p2 q3 p5 kl x0 x1 x2 x3 x4 x5 x6 h0 v U'.heap L ∧ FrameEnd U o U' L ({ frames := 0, cells := 0, slots := 0, locals := 0 } : Room).cells ({ frames := 0, cells := 0, slots := 0, locals := 0 } : Room).slots) := by
  refine MetFree.of_bodySF (plainFor_of_name pn_0) hisR ?_
  intro p e s m args below meth c s₁ Bd hml0 hP hK
  obtain ⟨rfl, hZ, hh⟩ := hP
  have hx := Bd.exec
  have hby := Bd.bytes
  have hml : c.maxLocals = 6 := hml0
  have hown : s.vm.findClass "com/example/tidemine/tidemine/TokensIsPinLaw" = some m.cls := findClass_of_methodNamed Bd.named
  have hnm := (name_of_methodNamed Bd.named Bd.method).1
  have X0 : Stand p l e ({ frames := 0, cells := 0, slots := 0, locals := 0 } : Room) s m #[(.ref a1), (.int p2), (.long q3), (.int (2 : Int32)), (.int p5)] below meth c s₁ [] 0 0 := Stand.of_body Bd
  have e0 : s₁.heap = h0 := by rw [← hh, Bd.state]; rfl
  have pre0 : ∀ t, Steps p.tables e below (s₁.setTop (mkF m 0 #[.val (.ref a1), .val (.int p2), .val (.long q3), .second, .val (.int (2 : Int32)), .val (.int p5)] [])) t → Steps p.tables e below (s₁.setTop (entryFrame m #[(.ref a1), (.int p2), (.long q3), (.int (2 : Int32)), (.int p5)] 6)) t := fun t k => castTop (ef_8_2 m a1 p2 q3 p5) k
  obtain ⟨v1, hv1⟩ : ∃ z : Int32, z = (if (((p5.toUInt32 >>> ((4 : Int32) &&& 31).toUInt32).toInt32) &&& (1 : Int32)) = (0 : Int32) then ((q3.toUInt64 >>> ((16 : Int32) &&& 0x3f).toInt64.toUInt64).toInt64).toInt32.toInt8.toInt32 else (own_at x0 x1 x2 x3 x4 x5 x6 (p2 + (2 : Int32)))) := ⟨_, rfl⟩
  obtain ⟨T2, X2, e2, st2⟩ : own_Mid X0 h0 (mkF m 9 #[vR a1, vI p2, vJ q3, .second, vI 2, vI p5] [iI (((p5.toUInt32 >>> ((4 : Int32) &&& 31).toUInt32).toInt32) &&& (1 : Int32))]) (mkF m 30 #[vR a1, vI p2, vJ q3, .second, vI 2, vI p5] [iI v1]) := by
    by_cases hc3 : (((p5.toUInt32 >>> ((4 : Int32) &&& 31).toUInt32).toInt32) &&& (1 : Int32)) = (0 : Int32)
    · refine ⟨s₁, X0, e0, fun t kt => ?_⟩
      subst hv1
      simp only [if_pos hc3] at kt
      show Steps _ _ _ (s₁.setTop (mkF m 9 #[vR a1, vI p2, vJ q3, .second, vI 2, vI p5] [iI (((p5.toUInt32 >>> ((4 : Int32) &&& 31).toUInt32).toInt32) &&& (1 : Int32))])) _
      refine XS.ifYes X0.here hx rfl (pc0 := 9) (pc' := 21) rfl (hb hby d8_9) rfl ((if0 _ _).trans (teq hc3).1) (by decide) (by decide) ?_
      show Steps _ _ _ (s₁.setTop (mkF m 21 #[vR a1, vI p2, vJ q3, .second, vI 2, vI p5] [])) _
      refine XS.lloadN X0.here hx rfl (hb hby d8_21) rfl ?_
      show Steps _ _ _ (s₁.setTop (mkF m 22 #[vR a1, vI p2, vJ q3, .second, vI 2, vI p5] [iJ q3])) _
      refine XS.bipush X0.here hx rfl (hb hby d8_22) ?_
      show Steps _ _ _ (s₁.setTop (mkF m 24 #[vR a1, vI p2, vJ q3, .second, vI 2, vI p5] [iI 8, iJ q3])) _
      refine XS.iload X0.here hx rfl (hb hby d8_24) rfl ?_
      show Steps _ _ _ (s₁.setTop (mkF m 26 #[vR a1, vI p2, vJ q3, .second, vI 2, vI p5] [iI 2, iI 8, iJ q3])) _
      refine XS.imul X0.here hx rfl (hb hby d8_26) rfl ?_
      rw [(by decide : ((8 : Int32) * (2 : Int32)) = (16 : Int32))]
      show Steps _ _ _ (s₁.setTop (mkF m 27 #[vR a1, vI p2, vJ q3, .second, vI 2, vI p5] [iI 16, iJ q3])) _
      refine XS.lushr X0.here hx rfl (hb hby d8_27) rfl ?_
      show Steps _ _ _ (s₁.setTop (mkF m 28 #[vR a1, vI p2, vJ q3, .second, vI 2, vI p5] [iJ ((q3.toUInt64 >>> ((16 : Int32) &&& 0x3f).toInt64.toUInt64).toInt64)])) _
      refine XS.l2i X0.here hx rfl (hb hby d8_28) rfl ?_
      show Steps _ _ _ (s₁.setTop (mkF m 29 #[vR a1, vI p2, vJ q3, .second, vI 2, vI p5] [iI ((q3.toUInt64 >>> ((16 : Int32) &&& 0x3f).toInt64.toUInt64).toInt64).toInt32])) _
      refine XS.i2b X0.here hx rfl (hb hby d8_29) rfl ?_
      exact kt
    · obtain ⟨cl4, Ar4, q4, S4, M4, H4, G4⟩ := id V_l
      have hin5 : ¬ ((p2 + (2 : Int32)) < 0 ∨ cl4.slots.size ≤ ((p2 + (2 : Int32))).toNatClampNeg) := inb_of S4 (own_pin2 ha)
      have hat6 : cl4.slots[((p2 + (2 : Int32))).toNatClampNeg]? = some (.int (own_at x0 x1 x2 x3 x4 x5 x6 (p2 + (2 : Int32)))) := Has.at H4 hin5 (own_atL (own_pin2 ha))
      refine ⟨s₁, X0, e0, fun t kt => ?_⟩
      subst hv1
      simp only [if_neg hc3] at kt
      show Steps _ _ _ (s₁.setTop (mkF m 9 #[vR a1, vI p2, vJ q3, .second, vI 2, vI p5] [iI (((p5.toUInt32 >>> ((4 : Int32) &&& 31).toUInt32).toInt32) &&& (1 : Int32))])) _
      refine XS.ifNo X0.here hx rfl (hb hby d8_9) rfl ((if0 _ _).trans (feq hc3).1) ?_
      show Steps _ _ _ (s₁.setTop (mkF m 12 #[vR a1, vI p2, vJ q3, .second, vI 2, vI p5] [])) _
      refine XS.aloadN X0.here hx rfl (hb hby d8_12) rfl rfl ?_
      show Steps _ _ _ (s₁.setTop (mkF m 13 #[vR a1, vI p2, vJ q3, .second, vI 2, vI p5] [iR a1])) _
      refine XS.iloadN X0.here hx rfl (hb hby d8_13) rfl ?_
      show Steps _ _ _ (s₁.setTop (mkF m 14 #[vR a1, vI p2, vJ q3, .second, vI 2, vI p5] [iI p2, iR a1])) _
      refine XS.iload X0.here hx rfl (hb hby d8_14) rfl ?_
      show Steps _ _ _ (s₁.setTop (mkF m 16 #[vR a1, vI p2, vJ q3, .second, vI 2, vI p5] [iI 2, iI p2, iR a1])) _
      refine XS.iadd X0.here hx rfl (hb hby d8_16) rfl ?_
      show Steps _ _ _ (s₁.setTop (mkF m 17 #[vR a1, vI p2, vJ q3, .second, vI 2, vI p5] [iI (p2 + (2 : Int32)), iR a1])) _
      refine X0.baloadBytes hx (j := (p2 + (2 : Int32))) (v := (.int (own_at x0 x1 x2 x3 x4 x5 x6 (p2 + (2 : Int32))))) (by rw [e0]; exact Ar4.1) (State.isArrayOf_alike hZ.alike Ar4.2.1) Ar4.2.2 hin5 hat6 (g := (mkF m 17 #[vR a1, vI p2, vJ q3, .second, vI 2, vI p5] [iI (p2 + (2 : Int32)), iR a1])) rfl rfl (hb hby d8_17) _ ?_
      show Steps _ _ _ (s₁.setTop (mkF m 18 #[vR a1, vI p2, vJ q3, .second, vI 2, vI p5] [iI (own_at x0 x1 x2 x3 x4 x5 x6 (p2 + (2 : Int32)))])) _
      refine XS.goto X0.here hx rfl (pc0 := 18) (pc' := 30) rfl (hb hby d8_18) (by decide) (by decide) ?_
      exact kt
  obtain ⟨fs, hr, hrun, hended, hW, hsame⟩ := X2.leave (v := some (.int (nar .byte v1))) (fun h => by rw [Bd.returns] at h; cases h)
  refine ⟨_, _, pre0 _ ?_, hrun, hended, _, _, rfl, ?_, ⟨_, rfl⟩, hW, hsame.mono (by decide) (by decide)⟩
  · show Steps _ _ _ (s₁.setTop (mkF m 0 #[vR a1, vI p2, vJ q3, .second, vI 2, vI p5] [])) _
    refine XS.iload X0.here hx rfl (hb hby d8_0) rfl ?_
    show Steps _ _ _ (s₁.setTop (mkF m 2 #[vR a1, vI p2, vJ q3, .second, vI 2, vI p5] [iI p5])) _
    refine XS.iconst X0.here hx rfl (hb hby d8_2) ?_
    show Steps _ _ _ (s₁.setTop (mkF m 3 #[vR a1, vI p2, vJ q3, .second, vI 2, vI p5] [iI 2, iI p5])) _
    refine XS.iload X0.here hx rfl (hb hby d8_3) rfl ?_
    show Steps _ _ _ (s₁.setTop (mkF m 5 #[vR a1, vI p2, vJ q3, .second, vI 2, vI p5] [iI 2, iI 2, iI p5])) _
    refine XS.iadd X0.here hx rfl (hb hby d8_5) rfl ?_
    rw [(by decide : ((2 : Int32) + (2 : Int32)) = (4 : Int32))]
    show Steps _ _ _ (s₁.setTop (mkF m 6 #[vR a1, vI p2, vJ q3, .second, vI 2, vI p5] [iI 4, iI p5])) _
    refine XS.iushr X0.here hx rfl (hb hby d8_6) rfl ?_
    show Steps _ _ _ (s₁.setTop (mkF m 7 #[vR a1, vI p2, vJ q3, .second, vI 2, vI p5] [iI ((p5.toUInt32 >>> ((4 : Int32) &&& 31).toUInt32).toInt32)])) _
    refine XS.iconst X0.here hx rfl (hb hby d8_7) ?_
    show Steps _ _ _ (s₁.setTop (mkF m 8 #[vR a1, vI p2, vJ q3, .second, vI 2, vI p5] [iI 1, iI ((p5.toUInt32 >>> ((4 : Int32) &&& 31).toUInt32).toInt32)])) _
    refine XS.iand X0.here hx rfl (hb hby d8_8) rfl ?_
    show Steps _ _ _ (s₁.setTop (mkF m 9 #[vR a1, vI p2, vJ q3, .second, vI 2, vI p5] [iI (((p5.toUInt32 >>> ((4 : Int32) &&& 31).toUInt32).toInt32) &&& (1 : Int32))])) _
    refine st2 _ ?_
    show Steps _ _ _ (T2.setTop (mkF m 30 #[vR a1, vI p2, vJ q3, .second, vI 2, vI p5] [iI v1])) _
    exact retN X2 hx (t := .byte) Bd.returns (by simp) (hb hby d8_30) hr
  · show Q8_2 Z a1 p2 q3 p5 kl x0 x1 x2 x3 x4 x5 x6 h0 _ T2.heap _
    rw [e2]
    exact ⟨by subst hv1; first | rfl | (simp only [own_pk_2]; done) | (simp only [own_pk_2]; rfl) | (simp only [own_pk_2, nar] ; first | rfl | (simp; done) | decide), rfl, rfl⟩
theorem own_sep0 (c : Int32) (h1 : c ≠ 32) (h2 : c ≠ 9) : (own_sep c) = (0 : Int32) := by unfold own_sep; rw [if_neg h1, if_neg h2]; decide
theorem own_b8 (z : Int32) : nar .byte (nar .byte z) = nar .byte z := by
  show z.toInt8.toInt32.toInt8.toInt32 = z.toInt8.toInt32
  rw [Int8.toInt8_toInt32]
theorem own_nsx (q : Int64) (p : Int32) : (own_sep (nar .byte (own_ns q p))) = (0 : Int32) := by
  unfold own_ns
  rw [own_b8]
  generalize ((q.toUInt64 >>> (((8 : Int32) * p) &&& 0x3f).toInt64.toUInt64).toInt64).toInt32 = z
  split
  · rename_i h; rw [h]; decide
  · split
    · rename_i h; rw [h]; decide
    · rename_i h1 h2
      have e : nar .byte z.toInt8.toInt32 = z.toInt8.toInt32 := own_b8 z
      rw [e]; exact own_sep0 _ h1 h2
theorem own_min2 (x v : Int32) (h : v = own_min (2 : Int32) (x &&& (3 : Int32))) : v = 0 ∨ v = 1 ∨ v = 2 := by
  have b := c_and x 3 (by decide)
  rcases own_small4 (x &&& (3 : Int32)) b.1 (Int.lt_of_le_of_lt b.2 (by decide)) with e | e | e | e <;> rw [e] at h <;> subst h <;> decide
theorem own_min7 (x v : Int32) (h : v = own_min (7 : Int32) ((5 : Int32) + (x &&& (3 : Int32)))) : v = 5 ∨ v = 6 ∨ v = 7 := by
  have b := c_and x 3 (by decide)
  rcases own_small4 (x &&& (3 : Int32)) b.1 (Int.lt_of_le_of_lt b.2 (by decide)) with e | e | e | e <;> rw [e] at h <;> subst h <;> decide
theorem own_in7 {p : Int32} (h : p = 0 ∨ p = 1 ∨ p = 2 ∨ p = 4) : ¬ p < 0 ∧ p < (7 : Int32) := by rcases h with rfl | rfl | rfl | rfl <;> decide

theorem own_fin0 (p f t x0 x1 x2 x3 x4 x5 x6  v10 v11 : Int32) (h10 : v10 = if p = (0 : Int32) then f else (4 : Int32)) (h11 : v11 = if p = (0 : Int32) then (3 : Int32) else t) : own_is_0 p f t x0 x1 x2 x3 x4 x5 x6  = (if (v11 - v10) = (0 : Int32) then (1 : Int32) else (0 : Int32)) := by
  subst h10 h11
  unfold own_is_0 own_sel
  first | done | rfl
theorem own_fin1 (p f t x0 x1 x2 x3 x4 x5 x6 y0 v10 v11 : Int32) (h10 : v10 = if p = (0 : Int32) then f else (4 : Int32)) (h11 : v11 = if p = (0 : Int32) then (3 : Int32) else t) : own_is_1 p f t x0 x1 x2 x3 x4 x5 x6 y0 = (if (v11 - v10) = (1 : Int32) then (if y0 = (own_at x0 x1 x2 x3 x4 x5 x6 v10) then (1 : Int32) else (0 : Int32)) else (0 : Int32)) := by
  subst h10 h11
  unfold own_is_1 own_sel
  simp only [Int32.add_zero, eq_comm (a := y0)]
theorem own_fin2 (p f t x0 x1 x2 x3 x4 x5 x6 y0 y1 v10 v11 : Int32) (h10 : v10 = if p = (0 : Int32) then f else (4 : Int32)) (h11 : v11 = if p = (0 : Int32) then (3 : Int32) else t) : own_is_2 p f t x0 x1 x2 x3 x4 x5 x6 y0 y1 = (if (v11 - v10) = (2 : Int32) then (if y0 = (own_at x0 x1 x2 x3 x4 x5 x6 v10) then (if y1 = (own_at x0 x1 x2 x3 x4 x5 x6 (v10 + (1 : Int32))) then (1 : Int32) else (0 : Int32)) else (0 : Int32)) else (0 : Int32)) := by
  subst h10 h11
  unfold own_is_2 own_sel
  simp only [Int32.add_zero, eq_comm (a := y0), eq_comm (a := y1)]
theorem own_fin3 (p f t x0 x1 x2 x3 x4 x5 x6 y0 y1 y2 v10 v11 : Int32) (h10 : v10 = if p = (0 : Int32) then f else (4 : Int32)) (h11 : v11 = if p = (0 : Int32) then (3 : Int32) else t) : own_is_3 p f t x0 x1 x2 x3 x4 x5 x6 y0 y1 y2 = (if (v11 - v10) = (3 : Int32) then (if y0 = (own_at x0 x1 x2 x3 x4 x5 x6 v10) then (if y1 = (own_at x0 x1 x2 x3 x4 x5 x6 (v10 + (1 : Int32))) then (if y2 = (own_at x0 x1 x2 x3 x4 x5 x6 (v10 + (2 : Int32))) then (1 : Int32) else (0 : Int32)) else (0 : Int32)) else (0 : Int32)) else (0 : Int32)) := by
  subst h10 h11
  unfold own_is_3 own_sel
  simp only [Int32.add_zero, eq_comm (a := y0), eq_comm (a := y1), eq_comm (a := y2)]

theorem ef_0 (m : MethodId) (x0 : Int64) (x1 : Int32) (x2 : Int64) (x3 : Int32) : entryFrame m #[(.long x0), (.int x1), (.long x2), (.int x3)] maxLocals = mkF m 0 #[.val (.long x0), .second, .val (.int x1), .val (.long x2), .second, .val (.int x3), .unset, .unset, .unset, .unset, .unset, .unset, .unset, .unset, .unset, .unset] [] := by first | (simp [entryFrame, mkF, argsToLocals, Value.category, maxLocals]; done) | rfl
def Q0 (Z : State) (q1 : Int64) (p2 : Int32) (q3 : Int64) (p4 : Int32) (h0 : Heap) (n0 : Nat) (v : Option Value) (h : Heap) (L : List Loc) : Prop := v = some (.int (1 : Int32)) ∧ Fr n0 L
set_option maxRecDepth 65536 in
set_option maxHeartbeats 40000000 in
theorem rm0 (l : Launch) (Z : State) (a0 : Array Value) (hw : ∀ d ∈ tables_1, d.before a0 Z = true) (ws : List Jvm.Cond) (q1 : Int64) (p2 : Int32) (q3 : Int64) (p4 : Int32) (h0 : Heap) (n0 : Nat) (Z0 : n0 ≤ h0.size) :
    MetFree l x (head1 (Jvm.Cond.code x code maxLocals ret :: ws) room_1) (fun a U => a = #[(.long q1), (.int p2), (.long q3), (.int p4)] ∧ Z.Warmed39 U.vm ∧ U.heap = h0) (fun _ _ _ _ _ => True) (fun _ U o U' => ∃ v L, o = .returned v ∧ Q0 Z q1 p2 q3 p4 h0 n0 v U'.heap L ∧ FrameEnd U o U' L room_1.cells room_1.slots) := by
  refine MetFree.of_bodySF (plainFor_of_name pn_0) hisR ?_
  intro p e s m args below meth c s₁ Bd hml0 hP hK
  obtain ⟨rfl, hZ, hh⟩ := hP
  have hx := Bd.exec
  have hby := Bd.bytes
  have hml : c.maxLocals = 16 := hml0
  have hown : s.vm.findClass "com/example/tidemine/tidemine/TokensIsPinLaw" = some m.cls := findClass_of_methodNamed Bd.named
  have hnm := (name_of_methodNamed Bd.named Bd.method).1
  have X0 : Stand p l e room_1 s m #[(.long q1), (.int p2), (.long q3), (.int p4)] below meth c s₁ [] 0 0 := Stand.of_body Bd
  have e0 : s₁.heap = h0 := by rw [← hh, Bd.state]; rfl
  have N0 := Fr.nil n0
  have K0 := Keep.refl h0 []
  have pre0 : ∀ t, Steps p.tables e below (s₁.setTop (mkF m 0 #[.val (.long q1), .second, .val (.int p2), .val (.long q3), .second, .val (.int p4), .unset, .unset, .unset, .unset, .unset, .unset, .unset, .unset, .unset, .unset] [])) t → Steps p.tables e below (s₁.setTop (entryFrame m #[(.long q1), (.int p2), (.long q3), (.int p4)] maxLocals)) t := fun t k => castTop (ef_0 m q1 p2 q3 p4) k
  obtain ⟨T1, h1, k1, X1, e1, E1, A1, st1⟩ := newP X0 hx hZ (hw _ (List.mem_of_getElem? (i := 0) rfl)) e0 (g := (mkF m 2 #[vJ q1, .second, vI p2, vJ q3, .second, vI p4, .unset, .unset, .unset, .unset, .unset, .unset, .unset, .unset, .unset, .unset] [iI 7])) rfl (hb hby at_2) rfl (by decide) (cap := 7) (by decide) (by decide) (by decide) (by decide)
  obtain ⟨b1, g1⟩ : ∃ z, z = h0.size := ⟨_, rfl⟩
  rw [← g1] at A1 st1
  have sz_b1 : h0.size ≤ b1 := Nat.le_trans K0.1 (Nat.le_of_eq g1.symm)
  have g_b1 : n0 ≤ b1 := Nat.le_trans Z0 sz_b1
  have K1 : Keep h0 h1 [] := K0.ext E1
  have V1 : Arv Z h1 b1 k1 .byte (7 : Int32) [(.int (0 : Int32)), (.int (0 : Int32)), (.int (0 : Int32)), (.int (0 : Int32)), (.int (0 : Int32)), (.int (0 : Int32)), (.int (0 : Int32))] (.int (0 : Int32)) := (Arv.new A1 (by decide)).pad (pad_rep [] (.int (0 : Int32)) 7)
  obtain ⟨_, _, ⟨T2, L2, k2, n2⟩, -, X2, ⟨Lc2, hQ2, l2, y2, z2⟩, st2⟩ := Jvm.LawKit.callS X1 hx (y := (⟨"com/example/tidemine/tidemine/TokensIsPinLaw", "nonSep", "(JI)B"⟩ : MethodName)) hown (mvT hZ (hw _ (List.mem_of_getElem? (i := 1) rfl))) (mvT hZ (hw _ (List.mem_of_getElem? (i := 2) rfl))) (mvT hZ (hw _ (List.mem_of_getElem? (i := 3) rfl))) (mvT hZ (hw _ (List.mem_of_getElem? (i := 4) rfl))) (by decide) (backOf (W := 2) (rm1 l Z a0 hw [] q1 (0 : Int32) h1 ) hZ (hw _ (List.mem_of_getElem? (i := 4) rfl)) (hw _ (List.mem_of_getElem? (i := 3) rfl)) (by decide) (by decide)) (g := (mkF m 11 #[vJ q1, .second, vI p2, vJ q3, .second, vI p4, vR b1, .unset, .unset, .unset, .unset, .unset, .unset, .unset, .unset, .unset] [iI 0, iJ q1, iI 0, iR b1])) rfl (by rw [hml]; rfl) (argsL := [(.long q1), (.int (0 : Int32))]) (rest := [(.int (0 : Int32)), (.ref b1)]) (lenOf pd_1 rfl) rfl (by show 2 * 0 + _ ≤ _; exact Nat.le_of_eq rfl) (hb hby at_11) (fun _ _ => ⟨rfl, e1, (by decide : 1 + 0 ≤ _), (by decide : 7 + 0 ≤ _)⟩)
  dsimp only [Pt.U, Pt.locs, Pt.cells, Pt.slots] at X2 l2 y2 z2 st2 hQ2
  subst l2 y2 z2
  obtain ⟨rfl, rfl, e2⟩ := hQ2
  try rw [List.append_nil] at X2
  obtain ⟨nb0, hnb0⟩ : ∃ z : Int32, z = (own_ns q1 (0 : Int32)) := ⟨_, rfl⟩
  obtain ⟨cl4, Ar4, q4, S4, M4, H4, G4⟩ := id V1
  have hin5 : ¬ ((0 : Int32) < 0 ∨ cl4.slots.size ≤ ((0 : Int32)).toNatClampNeg) := inb_of S4 ⟨by decide, by decide⟩
  obtain ⟨T6, h6, X6, e6, W6, st6⟩ := stB X2 hx hZ e2 Ar4 (j := (0 : Int32)) hin5 (g := (mkF m 14 #[vJ q1, .second, vI p2, vJ q3, .second, vI p4, vR b1, .unset, .unset, .unset, .unset, .unset, .unset, .unset, .unset, .unset] [iI nb0, iI 0, iR b1])) rfl rfl (hb hby at_14)
  have V6 : Arv Z h6 b1 k1 .byte (7 : Int32) [(.int (nar .byte nb0)), (.int (0 : Int32)), (.int (0 : Int32)), (.int (0 : Int32)), (.int (0 : Int32)), (.int (0 : Int32)), (.int (0 : Int32))] (.int (0 : Int32)) := Arv.set Ar4 q4 S4 M4 H4 G4 (fits_nar_byte _) W6 0 rfl (Nat.le_of_ble_eq_true rfl)
  have K6 : Keep h0 h6 [] := K1.wr W6 (Or.inr sz_b1)
  have N6 := Fr.snoc X6 N0 g_b1
  obtain ⟨_, _, ⟨T7, L7, k7, n7⟩, -, X7, ⟨Lc7, hQ7, l7, y7, z7⟩, st7⟩ := Jvm.LawKit.callS X6 hx (y := (⟨"com/example/tidemine/tidemine/TokensIsPinLaw", "nonSep", "(JI)B"⟩ : MethodName)) hown (mvT hZ (hw _ (List.mem_of_getElem? (i := 1) rfl))) (mvT hZ (hw _ (List.mem_of_getElem? (i := 2) rfl))) (mvT hZ (hw _ (List.mem_of_getElem? (i := 3) rfl))) (mvT hZ (hw _ (List.mem_of_getElem? (i := 4) rfl))) (by decide) (backOf (W := 2) (rm1 l Z a0 hw [] q1 (1 : Int32) h6 ) hZ (hw _ (List.mem_of_getElem? (i := 4) rfl)) (hw _ (List.mem_of_getElem? (i := 3) rfl)) (by decide) (by decide)) (g := (mkF m 20 #[vJ q1, .second, vI p2, vJ q3, .second, vI p4, vR b1, .unset, .unset, .unset, .unset, .unset, .unset, .unset, .unset, .unset] [iI 1, iJ q1, iI 1, iR b1])) rfl (by rw [hml]; rfl) (argsL := [(.long q1), (.int (1 : Int32))]) (rest := [(.int (1 : Int32)), (.ref b1)]) (lenOf pd_1 rfl) rfl (by show 2 * 0 + _ ≤ _; exact Nat.le_of_eq rfl) (hb hby at_20) (fun _ _ => ⟨rfl, e6, (by decide : 1 + 0 ≤ _), (by decide : 7 + 0 ≤ _)⟩)
  dsimp only [Pt.U, Pt.locs, Pt.cells, Pt.slots] at X7 l7 y7 z7 st7 hQ7
  subst l7 y7 z7
  obtain ⟨rfl, rfl, e7⟩ := hQ7
  try rw [List.append_nil] at X7
  obtain ⟨nb1, hnb1⟩ : ∃ z : Int32, z = (own_ns q1 (1 : Int32)) := ⟨_, rfl⟩
  obtain ⟨cl9, Ar9, q9, S9, M9, H9, G9⟩ := id V6
  have hin10 : ¬ ((1 : Int32) < 0 ∨ cl9.slots.size ≤ ((1 : Int32)).toNatClampNeg) := inb_of S9 ⟨by decide, by decide⟩
  obtain ⟨T11, h11, X11, e11, W11, st11⟩ := stB X7 hx hZ e7 Ar9 (j := (1 : Int32)) hin10 (g := (mkF m 23 #[vJ q1, .second, vI p2, vJ q3, .second, vI p4, vR b1, .unset, .unset, .unset, .unset, .unset, .unset, .unset, .unset, .unset] [iI nb1, iI 1, iR b1])) rfl rfl (hb hby at_23)
  have V11 : Arv Z h11 b1 k1 .byte (7 : Int32) [(.int (nar .byte nb0)), (.int (nar .byte nb1)), (.int (0 : Int32)), (.int (0 : Int32)), (.int (0 : Int32)), (.int (0 : Int32)), (.int (0 : Int32))] (.int (0 : Int32)) := Arv.set Ar9 q9 S9 M9 H9 G9 (fits_nar_byte _) W11 1 rfl (Nat.le_of_ble_eq_true rfl)
  have K11 : Keep h0 h11 [] := K6.wr W11 (Or.inr sz_b1)
  have N11 := Fr.snoc X11 N6 g_b1
  obtain ⟨_, _, ⟨T12, L12, k12, n12⟩, -, X12, ⟨Lc12, hQ12, l12, y12, z12⟩, st12⟩ := Jvm.LawKit.callS X11 hx (y := (⟨"com/example/tidemine/tidemine/TokensIsPinLaw", "nonSep", "(JI)B"⟩ : MethodName)) hown (mvT hZ (hw _ (List.mem_of_getElem? (i := 1) rfl))) (mvT hZ (hw _ (List.mem_of_getElem? (i := 2) rfl))) (mvT hZ (hw _ (List.mem_of_getElem? (i := 3) rfl))) (mvT hZ (hw _ (List.mem_of_getElem? (i := 4) rfl))) (by decide) (backOf (W := 2) (rm1 l Z a0 hw [] q1 (2 : Int32) h11 ) hZ (hw _ (List.mem_of_getElem? (i := 4) rfl)) (hw _ (List.mem_of_getElem? (i := 3) rfl)) (by decide) (by decide)) (g := (mkF m 29 #[vJ q1, .second, vI p2, vJ q3, .second, vI p4, vR b1, .unset, .unset, .unset, .unset, .unset, .unset, .unset, .unset, .unset] [iI 2, iJ q1, iI 2, iR b1])) rfl (by rw [hml]; rfl) (argsL := [(.long q1), (.int (2 : Int32))]) (rest := [(.int (2 : Int32)), (.ref b1)]) (lenOf pd_1 rfl) rfl (by show 2 * 0 + _ ≤ _; exact Nat.le_of_eq rfl) (hb hby at_29) (fun _ _ => ⟨rfl, e11, (by decide : 1 + 0 ≤ _), (by decide : 7 + 0 ≤ _)⟩)
  dsimp only [Pt.U, Pt.locs, Pt.cells, Pt.slots] at X12 l12 y12 z12 st12 hQ12
  subst l12 y12 z12
  obtain ⟨rfl, rfl, e12⟩ := hQ12
  try rw [List.append_nil] at X12
  obtain ⟨nb2, hnb2⟩ : ∃ z : Int32, z = (own_ns q1 (2 : Int32)) := ⟨_, rfl⟩
  obtain ⟨cl14, Ar14, q14, S14, M14, H14, G14⟩ := id V11
  have hin15 : ¬ ((2 : Int32) < 0 ∨ cl14.slots.size ≤ ((2 : Int32)).toNatClampNeg) := inb_of S14 ⟨by decide, by decide⟩
  obtain ⟨T16, h16, X16, e16, W16, st16⟩ := stB X12 hx hZ e12 Ar14 (j := (2 : Int32)) hin15 (g := (mkF m 32 #[vJ q1, .second, vI p2, vJ q3, .second, vI p4, vR b1, .unset, .unset, .unset, .unset, .unset, .unset, .unset, .unset, .unset] [iI nb2, iI 2, iR b1])) rfl rfl (hb hby at_32)
  have V16 : Arv Z h16 b1 k1 .byte (7 : Int32) [(.int (nar .byte nb0)), (.int (nar .byte nb1)), (.int (nar .byte nb2)), (.int (0 : Int32)), (.int (0 : Int32)), (.int (0 : Int32)), (.int (0 : Int32))] (.int (0 : Int32)) := Arv.set Ar14 q14 S14 M14 H14 G14 (fits_nar_byte _) W16 2 rfl (Nat.le_of_ble_eq_true rfl)
  have K16 : Keep h0 h16 [] := K11.wr W16 (Or.inr sz_b1)
  have N16 := Fr.snoc X16 N11 g_b1
  obtain ⟨v17, hv17⟩ : ∃ z : Int32, z = (if (p2 &&& (64 : Int32)) = (0 : Int32) then (32 : Int32) else (9 : Int32)) := ⟨_, rfl⟩
  obtain ⟨T18, X18, e18, st18⟩ : own_Mid X16 h16 (mkF m 40 #[vJ q1, .second, vI p2, vJ q3, .second, vI p4, vR b1, .unset, .unset, .unset, .unset, .unset, .unset, .unset, .unset, .unset] [iI (p2 &&& (64 : Int32)), iI 3, iR b1]) (mkF m 50 #[vJ q1, .second, vI p2, vJ q3, .second, vI p4, vR b1, .unset, .unset, .unset, .unset, .unset, .unset, .unset, .unset, .unset] [iI v17, iI 3, iR b1]) := by
    by_cases hc19 : (p2 &&& (64 : Int32)) = (0 : Int32)
    · refine ⟨T16, X16, e16, fun t kt => ?_⟩
      subst hv17
      simp only [if_pos hc19] at kt
      show Steps _ _ _ (T16.setTop (mkF m 40 #[vJ q1, .second, vI p2, vJ q3, .second, vI p4, vR b1, .unset, .unset, .unset, .unset, .unset, .unset, .unset, .unset, .unset] [iI (p2 &&& (64 : Int32)), iI 3, iR b1])) _
      refine XS.ifYes X16.here hx rfl (pc0 := 40) (pc' := 48) rfl (hb hby at_40) rfl ((if0 _ _).trans (teq hc19).1) (by decide) (by decide) ?_
      show Steps _ _ _ (T16.setTop (mkF m 48 #[vJ q1, .second, vI p2, vJ q3, .second, vI p4, vR b1, .unset, .unset, .unset, .unset, .unset, .unset, .unset, .unset, .unset] [iI 3, iR b1])) _
      refine XS.bipush X16.here hx rfl (hb hby at_48) ?_
      exact kt
    · refine ⟨T16, X16, e16, fun t kt => ?_⟩
      subst hv17
      simp only [if_neg hc19] at kt
      show Steps _ _ _ (T16.setTop (mkF m 40 #[vJ q1, .second, vI p2, vJ q3, .second, vI p4, vR b1, .unset, .unset, .unset, .unset, .unset, .unset, .unset, .unset, .unset] [iI (p2 &&& (64 : Int32)), iI 3, iR b1])) _
      refine XS.ifNo X16.here hx rfl (hb hby at_40) rfl ((if0 _ _).trans (feq hc19).1) ?_
      show Steps _ _ _ (T16.setTop (mkF m 43 #[vJ q1, .second, vI p2, vJ q3, .second, vI p4, vR b1, .unset, .unset, .unset, .unset, .unset, .unset, .unset, .unset, .unset] [iI 3, iR b1])) _
      refine XS.bipush X16.here hx rfl (hb hby at_43) ?_
      show Steps _ _ _ (T16.setTop (mkF m 45 #[vJ q1, .second, vI p2, vJ q3, .second, vI p4, vR b1, .unset, .unset, .unset, .unset, .unset, .unset, .unset, .unset, .unset] [iI 9, iI 3, iR b1])) _
      refine XS.goto X16.here hx rfl (pc0 := 45) (pc' := 50) rfl (hb hby at_45) (by decide) (by decide) ?_
      exact kt
  obtain ⟨cl20, Ar20, q20, S20, M20, H20, G20⟩ := id V16
  have hin21 : ¬ ((3 : Int32) < 0 ∨ cl20.slots.size ≤ ((3 : Int32)).toNatClampNeg) := inb_of S20 ⟨by decide, by decide⟩
  obtain ⟨T22, h22, X22, e22, W22, st22⟩ := stB X18 hx hZ e18 Ar20 (j := (3 : Int32)) hin21 (g := (mkF m 50 #[vJ q1, .second, vI p2, vJ q3, .second, vI p4, vR b1, .unset, .unset, .unset, .unset, .unset, .unset, .unset, .unset, .unset] [iI v17, iI 3, iR b1])) rfl rfl (hb hby at_50)
  have V22 : Arv Z h22 b1 k1 .byte (7 : Int32) [(.int (nar .byte nb0)), (.int (nar .byte nb1)), (.int (nar .byte nb2)), (.int (nar .byte v17)), (.int (0 : Int32)), (.int (0 : Int32)), (.int (0 : Int32))] (.int (0 : Int32)) := Arv.set Ar20 q20 S20 M20 H20 G20 (fits_nar_byte _) W22 3 rfl (Nat.le_of_ble_eq_true rfl)
  have K22 : Keep h0 h22 [] := K16.wr W22 (Or.inr sz_b1)
  have N22 := Fr.snoc X22 N16 g_b1
  obtain ⟨_, _, ⟨T23, L23, k23, n23⟩, -, X23, ⟨Lc23, hQ23, l23, y23, z23⟩, st23⟩ := Jvm.LawKit.callS X22 hx (y := (⟨"com/example/tidemine/tidemine/TokensIsPinLaw", "nonSep", "(JI)B"⟩ : MethodName)) hown (mvT hZ (hw _ (List.mem_of_getElem? (i := 1) rfl))) (mvT hZ (hw _ (List.mem_of_getElem? (i := 2) rfl))) (mvT hZ (hw _ (List.mem_of_getElem? (i := 3) rfl))) (mvT hZ (hw _ (List.mem_of_getElem? (i := 4) rfl))) (by decide) (backOf (W := 2) (rm1 l Z a0 hw [] q1 (4 : Int32) h22 ) hZ (hw _ (List.mem_of_getElem? (i := 4) rfl)) (hw _ (List.mem_of_getElem? (i := 3) rfl)) (by decide) (by decide)) (g := (mkF m 56 #[vJ q1, .second, vI p2, vJ q3, .second, vI p4, vR b1, .unset, .unset, .unset, .unset, .unset, .unset, .unset, .unset, .unset] [iI 4, iJ q1, iI 4, iR b1])) rfl (by rw [hml]; rfl) (argsL := [(.long q1), (.int (4 : Int32))]) (rest := [(.int (4 : Int32)), (.ref b1)]) (lenOf pd_1 rfl) rfl (by show 2 * 0 + _ ≤ _; exact Nat.le_of_eq rfl) (hb hby at_56) (fun _ _ => ⟨rfl, e22, (by decide : 1 + 0 ≤ _), (by decide : 7 + 0 ≤ _)⟩)
  dsimp only [Pt.U, Pt.locs, Pt.cells, Pt.slots] at X23 l23 y23 z23 st23 hQ23
  subst l23 y23 z23
  obtain ⟨rfl, rfl, e23⟩ := hQ23
  try rw [List.append_nil] at X23
  obtain ⟨nb4, hnb4⟩ : ∃ z : Int32, z = (own_ns q1 (4 : Int32)) := ⟨_, rfl⟩
  obtain ⟨cl25, Ar25, q25, S25, M25, H25, G25⟩ := id V22
  have hin26 : ¬ ((4 : Int32) < 0 ∨ cl25.slots.size ≤ ((4 : Int32)).toNatClampNeg) := inb_of S25 ⟨by decide, by decide⟩
  obtain ⟨T27, h27, X27, e27, W27, st27⟩ := stB X23 hx hZ e23 Ar25 (j := (4 : Int32)) hin26 (g := (mkF m 59 #[vJ q1, .second, vI p2, vJ q3, .second, vI p4, vR b1, .unset, .unset, .unset, .unset, .unset, .unset, .unset, .unset, .unset] [iI nb4, iI 4, iR b1])) rfl rfl (hb hby at_59)
  have V27 : Arv Z h27 b1 k1 .byte (7 : Int32) [(.int (nar .byte nb0)), (.int (nar .byte nb1)), (.int (nar .byte nb2)), (.int (nar .byte v17)), (.int (nar .byte nb4)), (.int (0 : Int32)), (.int (0 : Int32))] (.int (0 : Int32)) := Arv.set Ar25 q25 S25 M25 H25 G25 (fits_nar_byte _) W27 4 rfl (Nat.le_of_ble_eq_true rfl)
  have K27 : Keep h0 h27 [] := K22.wr W27 (Or.inr sz_b1)
  have N27 := Fr.snoc X27 N22 g_b1
  obtain ⟨_, _, ⟨T28, L28, k28, n28⟩, -, X28, ⟨Lc28, hQ28, l28, y28, z28⟩, st28⟩ := Jvm.LawKit.callS X27 hx (y := (⟨"com/example/tidemine/tidemine/TokensIsPinLaw", "nonSep", "(JI)B"⟩ : MethodName)) hown (mvT hZ (hw _ (List.mem_of_getElem? (i := 1) rfl))) (mvT hZ (hw _ (List.mem_of_getElem? (i := 2) rfl))) (mvT hZ (hw _ (List.mem_of_getElem? (i := 3) rfl))) (mvT hZ (hw _ (List.mem_of_getElem? (i := 4) rfl))) (by decide) (backOf (W := 2) (rm1 l Z a0 hw [] q1 (5 : Int32) h27 ) hZ (hw _ (List.mem_of_getElem? (i := 4) rfl)) (hw _ (List.mem_of_getElem? (i := 3) rfl)) (by decide) (by decide)) (g := (mkF m 65 #[vJ q1, .second, vI p2, vJ q3, .second, vI p4, vR b1, .unset, .unset, .unset, .unset, .unset, .unset, .unset, .unset, .unset] [iI 5, iJ q1, iI 5, iR b1])) rfl (by rw [hml]; rfl) (argsL := [(.long q1), (.int (5 : Int32))]) (rest := [(.int (5 : Int32)), (.ref b1)]) (lenOf pd_1 rfl) rfl (by show 2 * 0 + _ ≤ _; exact Nat.le_of_eq rfl) (hb hby at_65) (fun _ _ => ⟨rfl, e27, (by decide : 1 + 0 ≤ _), (by decide : 7 + 0 ≤ _)⟩)
  dsimp only [Pt.U, Pt.locs, Pt.cells, Pt.slots] at X28 l28 y28 z28 st28 hQ28
  subst l28 y28 z28
  obtain ⟨rfl, rfl, e28⟩ := hQ28
  try rw [List.append_nil] at X28
  obtain ⟨nb5, hnb5⟩ : ∃ z : Int32, z = (own_ns q1 (5 : Int32)) := ⟨_, rfl⟩
  obtain ⟨cl30, Ar30, q30, S30, M30, H30, G30⟩ := id V27
  have hin31 : ¬ ((5 : Int32) < 0 ∨ cl30.slots.size ≤ ((5 : Int32)).toNatClampNeg) := inb_of S30 ⟨by decide, by decide⟩
  obtain ⟨T32, h32, X32, e32, W32, st32⟩ := stB X28 hx hZ e28 Ar30 (j := (5 : Int32)) hin31 (g := (mkF m 68 #[vJ q1, .second, vI p2, vJ q3, .second, vI p4, vR b1, .unset, .unset, .unset, .unset, .unset, .unset, .unset, .unset, .unset] [iI nb5, iI 5, iR b1])) rfl rfl (hb hby at_68)
  have V32 : Arv Z h32 b1 k1 .byte (7 : Int32) [(.int (nar .byte nb0)), (.int (nar .byte nb1)), (.int (nar .byte nb2)), (.int (nar .byte v17)), (.int (nar .byte nb4)), (.int (nar .byte nb5)), (.int (0 : Int32))] (.int (0 : Int32)) := Arv.set Ar30 q30 S30 M30 H30 G30 (fits_nar_byte _) W32 5 rfl (Nat.le_of_ble_eq_true rfl)
  have K32 : Keep h0 h32 [] := K27.wr W32 (Or.inr sz_b1)
  have N32 := Fr.snoc X32 N27 g_b1
  obtain ⟨_, _, ⟨T33, L33, k33, n33⟩, -, X33, ⟨Lc33, hQ33, l33, y33, z33⟩, st33⟩ := Jvm.LawKit.callS X32 hx (y := (⟨"com/example/tidemine/tidemine/TokensIsPinLaw", "nonSep", "(JI)B"⟩ : MethodName)) hown (mvT hZ (hw _ (List.mem_of_getElem? (i := 1) rfl))) (mvT hZ (hw _ (List.mem_of_getElem? (i := 2) rfl))) (mvT hZ (hw _ (List.mem_of_getElem? (i := 3) rfl))) (mvT hZ (hw _ (List.mem_of_getElem? (i := 4) rfl))) (by decide) (backOf (W := 2) (rm1 l Z a0 hw [] q1 (6 : Int32) h32 ) hZ (hw _ (List.mem_of_getElem? (i := 4) rfl)) (hw _ (List.mem_of_getElem? (i := 3) rfl)) (by decide) (by decide)) (g := (mkF m 76 #[vJ q1, .second, vI p2, vJ q3, .second, vI p4, vR b1, .unset, .unset, .unset, .unset, .unset, .unset, .unset, .unset, .unset] [iI 6, iJ q1, iI 6, iR b1])) rfl (by rw [hml]; rfl) (argsL := [(.long q1), (.int (6 : Int32))]) (rest := [(.int (6 : Int32)), (.ref b1)]) (lenOf pd_1 rfl) rfl (by show 2 * 0 + _ ≤ _; exact Nat.le_of_eq rfl) (hb hby at_76) (fun _ _ => ⟨rfl, e32, (by decide : 1 + 0 ≤ _), (by decide : 7 + 0 ≤ _)⟩)
  dsimp only [Pt.U, Pt.locs, Pt.cells, Pt.slots] at X33 l33 y33 z33 st33 hQ33
  subst l33 y33 z33
  obtain ⟨rfl, rfl, e33⟩ := hQ33
  try rw [List.append_nil] at X33
  obtain ⟨nb6, hnb6⟩ : ∃ z : Int32, z = (own_ns q1 (6 : Int32)) := ⟨_, rfl⟩
  obtain ⟨cl35, Ar35, q35, S35, M35, H35, G35⟩ := id V32
  have hin36 : ¬ ((6 : Int32) < 0 ∨ cl35.slots.size ≤ ((6 : Int32)).toNatClampNeg) := inb_of S35 ⟨by decide, by decide⟩
  obtain ⟨T37, h37, X37, e37, W37, st37⟩ := stB X33 hx hZ e33 Ar35 (j := (6 : Int32)) hin36 (g := (mkF m 79 #[vJ q1, .second, vI p2, vJ q3, .second, vI p4, vR b1, .unset, .unset, .unset, .unset, .unset, .unset, .unset, .unset, .unset] [iI nb6, iI 6, iR b1])) rfl rfl (hb hby at_79)
  have V37 : Arv Z h37 b1 k1 .byte (7 : Int32) [(.int (nar .byte nb0)), (.int (nar .byte nb1)), (.int (nar .byte nb2)), (.int (nar .byte v17)), (.int (nar .byte nb4)), (.int (nar .byte nb5)), (.int (nar .byte nb6))] (.int (0 : Int32)) := Arv.set Ar35 q35 S35 M35 H35 G35 (fits_nar_byte _) W37 6 rfl (Nat.le_of_ble_eq_true rfl)
  have K37 : Keep h0 h37 [] := K32.wr W37 (Or.inr sz_b1)
  have N37 := Fr.snoc X37 N32 g_b1
  have hx0 : (own_sep (nar .byte nb0)) = (0 : Int32) := by rw [hnb0]; exact own_nsx _ _
  have hx1 : (own_sep (nar .byte nb1)) = (0 : Int32) := by rw [hnb1]; exact own_nsx _ _
  have hx2 : (own_sep (nar .byte nb2)) = (0 : Int32) := by rw [hnb2]; exact own_nsx _ _
  have hx4 : (own_sep (nar .byte nb4)) = (0 : Int32) := by rw [hnb4]; exact own_nsx _ _
  have hx5 : (own_sep (nar .byte nb5)) = (0 : Int32) := by rw [hnb5]; exact own_nsx _ _
  have hx6 : (own_sep (nar .byte nb6)) = (0 : Int32) := by rw [hnb6]; exact own_nsx _ _
  have hx3 : ¬ (own_sep (nar .byte v17)) = (0 : Int32) := by rw [hv17]; split <;> decide
  obtain ⟨_, _, ⟨T38, L38, k38, n38⟩, -, X38, ⟨Lc38, hQ38, l38, y38, z38⟩, st38⟩ := Jvm.LawKit.callS X37 hx (y := (⟨"java/lang/Math", "min", "(II)I"⟩ : MethodName)) hown (mvT hZ (hw _ (List.mem_of_getElem? (i := 5) rfl))) (mvT hZ (hw _ (List.mem_of_getElem? (i := 6) rfl))) (mvT hZ (hw _ (List.mem_of_getElem? (i := 7) rfl))) (mvT hZ (hw _ (List.mem_of_getElem? (i := 8) rfl))) (by decide) (backOf (W := 0) (rm2 l Z a0 hw [] (2 : Int32) (p2 &&& (3 : Int32)) h37 ) hZ (hw _ (List.mem_of_getElem? (i := 8) rfl)) (hw _ (List.mem_of_getElem? (i := 7) rfl)) (by decide) (by decide)) (g := (mkF m 84 #[vJ q1, .second, vI p2, vJ q3, .second, vI p4, vR b1, .unset, .unset, .unset, .unset, .unset, .unset, .unset, .unset, .unset] [iI (p2 &&& (3 : Int32)), iI 2])) rfl (by rw [hml]; rfl) (argsL := [(.int (2 : Int32)), (.int (p2 &&& (3 : Int32)))]) (rest := []) (lenOf pd_2 rfl) rfl (by show 2 * 0 + _ ≤ _; exact Nat.le_of_eq rfl) (hb hby at_84) (fun _ _ => ⟨rfl, e37, (by decide : 1 + 0 ≤ _), (by decide : 7 + 0 ≤ _)⟩)
  dsimp only [Pt.U, Pt.locs, Pt.cells, Pt.slots] at X38 l38 y38 z38 st38 hQ38
  subst l38 y38 z38
  obtain ⟨rfl, rfl, e38⟩ := hQ38
  try rw [List.append_nil] at X38
  obtain ⟨fv, hfv⟩ : ∃ z : Int32, z = (own_min (2 : Int32) (p2 &&& (3 : Int32))) := ⟨_, rfl⟩
  have qfv : fv = 0 ∨ fv = 1 ∨ fv = 2 := own_min2 _ _ hfv
  obtain ⟨_, _, ⟨T40, L40, k40, n40⟩, -, X40, ⟨Lc40, hQ40, l40, y40, z40⟩, st40⟩ := Jvm.LawKit.callS X38 hx (y := (⟨"java/lang/Math", "min", "(II)I"⟩ : MethodName)) hown (mvT hZ (hw _ (List.mem_of_getElem? (i := 5) rfl))) (mvT hZ (hw _ (List.mem_of_getElem? (i := 6) rfl))) (mvT hZ (hw _ (List.mem_of_getElem? (i := 7) rfl))) (mvT hZ (hw _ (List.mem_of_getElem? (i := 8) rfl))) (by decide) (backOf (W := 0) (rm2 l Z a0 hw [] (7 : Int32) ((5 : Int32) + (((p2.toUInt32 >>> ((2 : Int32) &&& 31).toUInt32).toInt32) &&& (3 : Int32))) h37 ) hZ (hw _ (List.mem_of_getElem? (i := 8) rfl)) (hw _ (List.mem_of_getElem? (i := 7) rfl)) (by decide) (by decide)) (g := (mkF m 98 #[vJ q1, .second, vI p2, vJ q3, .second, vI p4, vR b1, vI fv, .unset, .unset, .unset, .unset, .unset, .unset, .unset, .unset] [iI ((5 : Int32) + (((p2.toUInt32 >>> ((2 : Int32) &&& 31).toUInt32).toInt32) &&& (3 : Int32))), iI 7])) rfl (by rw [hml]; rfl) (argsL := [(.int (7 : Int32)), (.int ((5 : Int32) + (((p2.toUInt32 >>> ((2 : Int32) &&& 31).toUInt32).toInt32) &&& (3 : Int32))))]) (rest := []) (lenOf pd_2 rfl) rfl (by show 2 * 0 + _ ≤ _; exact Nat.le_of_eq rfl) (hb hby at_98) (fun _ _ => ⟨rfl, e38, (by decide : 1 + 0 ≤ _), (by decide : 7 + 0 ≤ _)⟩)
  dsimp only [Pt.U, Pt.locs, Pt.cells, Pt.slots] at X40 l40 y40 z40 st40 hQ40
  subst l40 y40 z40
  obtain ⟨rfl, rfl, e40⟩ := hQ40
  try rw [List.append_nil] at X40
  obtain ⟨tv, htv⟩ : ∃ z : Int32, z = (own_min (7 : Int32) ((5 : Int32) + (((p2.toUInt32 >>> ((2 : Int32) &&& 31).toUInt32).toInt32) &&& (3 : Int32)))) := ⟨_, rfl⟩
  have qtv : tv = 5 ∨ tv = 6 ∨ tv = 7 := own_min7 _ _ htv
  obtain ⟨kv, hkv⟩ : ∃ z : Int32, z = (((p2.toUInt32 >>> ((4 : Int32) &&& 31).toUInt32).toInt32) &&& (1 : Int32)) := ⟨_, rfl⟩
  have qkv : kv = 0 ∨ kv = 1 := by rw [hkv]; exact own_small2 _ (c_and _ 1 (by decide)).1 (Int.lt_of_le_of_lt (c_and _ 1 (by decide)).2 (by decide))
  obtain ⟨v43, hv43⟩ : ∃ z : Int32, z = (if kv = (0 : Int32) then fv else (4 : Int32)) := ⟨_, rfl⟩
  obtain ⟨T44, X44, e44, st44⟩ : own_Mid X40 h37 (mkF m 112 #[vJ q1, .second, vI p2, vJ q3, .second, vI p4, vR b1, vI fv, vI tv, vI kv, .unset, .unset, .unset, .unset, .unset, .unset] [iI kv]) (mkF m 121 #[vJ q1, .second, vI p2, vJ q3, .second, vI p4, vR b1, vI fv, vI tv, vI kv, .unset, .unset, .unset, .unset, .unset, .unset] [iI v43]) := by
    by_cases hc45 : kv = (0 : Int32)
    · refine ⟨T40, X40, e40, fun t kt => ?_⟩
      subst hv43
      simp only [if_pos hc45] at kt
      show Steps _ _ _ (T40.setTop (mkF m 112 #[vJ q1, .second, vI p2, vJ q3, .second, vI p4, vR b1, vI fv, vI tv, vI kv, .unset, .unset, .unset, .unset, .unset, .unset] [iI kv])) _
      refine XS.ifNo X40.here hx rfl (hb hby at_112) rfl ((if0 _ _).trans (teq hc45).2) ?_
      show Steps _ _ _ (T40.setTop (mkF m 115 #[vJ q1, .second, vI p2, vJ q3, .second, vI p4, vR b1, vI fv, vI tv, vI kv, .unset, .unset, .unset, .unset, .unset, .unset] [])) _
      refine XS.iload X40.here hx rfl (hb hby at_115) rfl ?_
      show Steps _ _ _ (T40.setTop (mkF m 117 #[vJ q1, .second, vI p2, vJ q3, .second, vI p4, vR b1, vI fv, vI tv, vI kv, .unset, .unset, .unset, .unset, .unset, .unset] [iI fv])) _
      refine XS.goto X40.here hx rfl (pc0 := 117) (pc' := 121) rfl (hb hby at_117) (by decide) (by decide) ?_
      exact kt
    · refine ⟨T40, X40, e40, fun t kt => ?_⟩
      subst hv43
      simp only [if_neg hc45] at kt
      show Steps _ _ _ (T40.setTop (mkF m 112 #[vJ q1, .second, vI p2, vJ q3, .second, vI p4, vR b1, vI fv, vI tv, vI kv, .unset, .unset, .unset, .unset, .unset, .unset] [iI kv])) _
      refine XS.ifYes X40.here hx rfl (pc0 := 112) (pc' := 120) rfl (hb hby at_112) rfl ((if0 _ _).trans (feq hc45).2) (by decide) (by decide) ?_
      show Steps _ _ _ (T40.setTop (mkF m 120 #[vJ q1, .second, vI p2, vJ q3, .second, vI p4, vR b1, vI fv, vI tv, vI kv, .unset, .unset, .unset, .unset, .unset, .unset] [])) _
      refine XS.iconst X40.here hx rfl (hb hby at_120) ?_
      exact kt
  have q10 : v43 = 0 ∨ v43 = 1 ∨ v43 = 2 ∨ v43 = 4 := by rw [hv43]; rcases qfv with rfl | rfl | rfl <;> split <;> simp
  obtain ⟨v46, hv46⟩ : ∃ z : Int32, z = (if kv = (0 : Int32) then (3 : Int32) else tv) := ⟨_, rfl⟩
  obtain ⟨T47, X47, e47, st47⟩ : own_Mid X44 h37 (mkF m 125 #[vJ q1, .second, vI p2, vJ q3, .second, vI p4, vR b1, vI fv, vI tv, vI kv, vI v43, .unset, .unset, .unset, .unset, .unset] [iI kv]) (mkF m 134 #[vJ q1, .second, vI p2, vJ q3, .second, vI p4, vR b1, vI fv, vI tv, vI kv, vI v43, .unset, .unset, .unset, .unset, .unset] [iI v46]) := by
    by_cases hc48 : kv = (0 : Int32)
    · refine ⟨T44, X44, e44, fun t kt => ?_⟩
      subst hv46
      simp only [if_pos hc48] at kt
      show Steps _ _ _ (T44.setTop (mkF m 125 #[vJ q1, .second, vI p2, vJ q3, .second, vI p4, vR b1, vI fv, vI tv, vI kv, vI v43, .unset, .unset, .unset, .unset, .unset] [iI kv])) _
      refine XS.ifNo X44.here hx rfl (hb hby at_125) rfl ((if0 _ _).trans (teq hc48).2) ?_
      show Steps _ _ _ (T44.setTop (mkF m 128 #[vJ q1, .second, vI p2, vJ q3, .second, vI p4, vR b1, vI fv, vI tv, vI kv, vI v43, .unset, .unset, .unset, .unset, .unset] [])) _
      refine XS.iconst X44.here hx rfl (hb hby at_128) ?_
      show Steps _ _ _ (T44.setTop (mkF m 129 #[vJ q1, .second, vI p2, vJ q3, .second, vI p4, vR b1, vI fv, vI tv, vI kv, vI v43, .unset, .unset, .unset, .unset, .unset] [iI 3])) _
      refine XS.goto X44.here hx rfl (pc0 := 129) (pc' := 134) rfl (hb hby at_129) (by decide) (by decide) ?_
      exact kt
    · refine ⟨T44, X44, e44, fun t kt => ?_⟩
      subst hv46
      simp only [if_neg hc48] at kt
      show Steps _ _ _ (T44.setTop (mkF m 125 #[vJ q1, .second, vI p2, vJ q3, .second, vI p4, vR b1, vI fv, vI tv, vI kv, vI v43, .unset, .unset, .unset, .unset, .unset] [iI kv])) _
      refine XS.ifYes X44.here hx rfl (pc0 := 125) (pc' := 132) rfl (hb hby at_125) rfl ((if0 _ _).trans (feq hc48).2) (by decide) (by decide) ?_
      show Steps _ _ _ (T44.setTop (mkF m 132 #[vJ q1, .second, vI p2, vJ q3, .second, vI p4, vR b1, vI fv, vI tv, vI kv, vI v43, .unset, .unset, .unset, .unset, .unset] [])) _
      refine XS.iload X44.here hx rfl (hb hby at_132) rfl ?_
      exact kt
  obtain ⟨lv, hlv⟩ : ∃ z : Int32, z = (p4 &&& (3 : Int32)) := ⟨_, rfl⟩
  have qlv : lv = 0 ∨ lv = 1 ∨ lv = 2 ∨ lv = 3 := by rw [hlv]; exact own_small4 _ (c_and _ 3 (by decide)).1 (Int.lt_of_le_of_lt (c_and _ 3 (by decide)).2 (by decide))
  have pre50 : ∀ t, Steps p.tables e below (T47.setTop (mkF m 142 #[vJ q1, .second, vI p2, vJ q3, .second, vI p4, vR b1, vI fv, vI tv, vI kv, vI v43, vI v46, vI lv, .unset, .unset, .unset] [])) t → Steps p.tables e below (s₁.setTop (entryFrame m #[(.long q1), (.int p2), (.long q3), (.int p4)] maxLocals)) t := by
    intro t kt
    refine pre0 t ?_
    show Steps _ _ _ (s₁.setTop (mkF m 0 #[vJ q1, .second, vI p2, vJ q3, .second, vI p4, .unset, .unset, .unset, .unset, .unset, .unset, .unset, .unset, .unset, .unset] [])) _
    refine XS.bipush X0.here hx rfl (hb hby at_0) ?_
    show Steps _ _ _ (s₁.setTop (mkF m 2 #[vJ q1, .second, vI p2, vJ q3, .second, vI p4, .unset, .unset, .unset, .unset, .unset, .unset, .unset, .unset, .unset, .unset] [iI 7])) _
    refine st1 _ ?_
    show Steps _ _ _ (T1.setTop (mkF m 4 #[vJ q1, .second, vI p2, vJ q3, .second, vI p4, .unset, .unset, .unset, .unset, .unset, .unset, .unset, .unset, .unset, .unset] [iR b1])) _
    refine XS.astore X1.here hx rfl (hb hby at_4) rfl rfl (l' := #[vJ q1, .second, vI p2, vJ q3, .second, vI p4, vR b1, .unset, .unset, .unset, .unset, .unset, .unset, .unset, .unset, .unset]) rfl ?_
    show Steps _ _ _ (T1.setTop (mkF m 6 #[vJ q1, .second, vI p2, vJ q3, .second, vI p4, vR b1, .unset, .unset, .unset, .unset, .unset, .unset, .unset, .unset, .unset] [])) _
    refine XS.aload X1.here hx rfl (hb hby at_6) rfl rfl ?_
    show Steps _ _ _ (T1.setTop (mkF m 8 #[vJ q1, .second, vI p2, vJ q3, .second, vI p4, vR b1, .unset, .unset, .unset, .unset, .unset, .unset, .unset, .unset, .unset] [iR b1])) _
    refine XS.iconst X1.here hx rfl (hb hby at_8) ?_
    show Steps _ _ _ (T1.setTop (mkF m 9 #[vJ q1, .second, vI p2, vJ q3, .second, vI p4, vR b1, .unset, .unset, .unset, .unset, .unset, .unset, .unset, .unset, .unset] [iI 0, iR b1])) _
    refine XS.lloadN X1.here hx rfl (hb hby at_9) rfl ?_
    show Steps _ _ _ (T1.setTop (mkF m 10 #[vJ q1, .second, vI p2, vJ q3, .second, vI p4, vR b1, .unset, .unset, .unset, .unset, .unset, .unset, .unset, .unset, .unset] [iJ q1, iI 0, iR b1])) _
    refine XS.iconst X1.here hx rfl (hb hby at_10) ?_
    show Steps _ _ _ (T1.setTop (mkF m 11 #[vJ q1, .second, vI p2, vJ q3, .second, vI p4, vR b1, .unset, .unset, .unset, .unset, .unset, .unset, .unset, .unset, .unset] [iI 0, iJ q1, iI 0, iR b1])) _
    refine st2 _ ?_
    rw [← hnb0]
    show Steps _ _ _ (T2.setTop (mkF m 14 #[vJ q1, .second, vI p2, vJ q3, .second, vI p4, vR b1, .unset, .unset, .unset, .unset, .unset, .unset, .unset, .unset, .unset] [iI nb0, iI 0, iR b1])) _
    refine st6 _ ?_
    show Steps _ _ _ (T6.setTop (mkF m 15 #[vJ q1, .second, vI p2, vJ q3, .second, vI p4, vR b1, .unset, .unset, .unset, .unset, .unset, .unset, .unset, .unset, .unset] [])) _
    refine XS.aload X6.here hx rfl (hb hby at_15) rfl rfl ?_
    show Steps _ _ _ (T6.setTop (mkF m 17 #[vJ q1, .second, vI p2, vJ q3, .second, vI p4, vR b1, .unset, .unset, .unset, .unset, .unset, .unset, .unset, .unset, .unset] [iR b1])) _
    refine XS.iconst X6.here hx rfl (hb hby at_17) ?_
    show Steps _ _ _ (T6.setTop (mkF m 18 #[vJ q1, .second, vI p2, vJ q3, .second, vI p4, vR b1, .unset, .unset, .unset, .unset, .unset, .unset, .unset, .unset, .unset] [iI 1, iR b1])) _
    refine XS.lloadN X6.here hx rfl (hb hby at_18) rfl ?_
    show Steps _ _ _ (T6.setTop (mkF m 19 #[vJ q1, .second, vI p2, vJ q3, .second, vI p4, vR b1, .unset, .unset, .unset, .unset, .unset, .unset, .unset, .unset, .unset] [iJ q1, iI 1, iR b1])) _
    refine XS.iconst X6.here hx rfl (hb hby at_19) ?_
    show Steps _ _ _ (T6.setTop (mkF m 20 #[vJ q1, .second, vI p2, vJ q3, .second, vI p4, vR b1, .unset, .unset, .unset, .unset, .unset, .unset, .unset, .unset, .unset] [iI 1, iJ q1, iI 1, iR b1])) _
    refine st7 _ ?_
    rw [← hnb1]
    show Steps _ _ _ (T7.setTop (mkF m 23 #[vJ q1, .second, vI p2, vJ q3, .second, vI p4, vR b1, .unset, .unset, .unset, .unset, .unset, .unset, .unset, .unset, .unset] [iI nb1, iI 1, iR b1])) _
    refine st11 _ ?_
    show Steps _ _ _ (T11.setTop (mkF m 24 #[vJ q1, .second, vI p2, vJ q3, .second, vI p4, vR b1, .unset, .unset, .unset, .unset, .unset, .unset, .unset, .unset, .unset] [])) _
    refine XS.aload X11.here hx rfl (hb hby at_24) rfl rfl ?_
    show Steps _ _ _ (T11.setTop (mkF m 26 #[vJ q1, .second, vI p2, vJ q3, .second, vI p4, vR b1, .unset, .unset, .unset, .unset, .unset, .unset, .unset, .unset, .unset] [iR b1])) _
    refine XS.iconst X11.here hx rfl (hb hby at_26) ?_
    show Steps _ _ _ (T11.setTop (mkF m 27 #[vJ q1, .second, vI p2, vJ q3, .second, vI p4, vR b1, .unset, .unset, .unset, .unset, .unset, .unset, .unset, .unset, .unset] [iI 2, iR b1])) _
    refine XS.lloadN X11.here hx rfl (hb hby at_27) rfl ?_
    show Steps _ _ _ (T11.setTop (mkF m 28 #[vJ q1, .second, vI p2, vJ q3, .second, vI p4, vR b1, .unset, .unset, .unset, .unset, .unset, .unset, .unset, .unset, .unset] [iJ q1, iI 2, iR b1])) _
    refine XS.iconst X11.here hx rfl (hb hby at_28) ?_
    show Steps _ _ _ (T11.setTop (mkF m 29 #[vJ q1, .second, vI p2, vJ q3, .second, vI p4, vR b1, .unset, .unset, .unset, .unset, .unset, .unset, .unset, .unset, .unset] [iI 2, iJ q1, iI 2, iR b1])) _
    refine st12 _ ?_
    rw [← hnb2]
    show Steps _ _ _ (T12.setTop (mkF m 32 #[vJ q1, .second, vI p2, vJ q3, .second, vI p4, vR b1, .unset, .unset, .unset, .unset, .unset, .unset, .unset, .unset, .unset] [iI nb2, iI 2, iR b1])) _
    refine st16 _ ?_
    show Steps _ _ _ (T16.setTop (mkF m 33 #[vJ q1, .second, vI p2, vJ q3, .second, vI p4, vR b1, .unset, .unset, .unset, .unset, .unset, .unset, .unset, .unset, .unset] [])) _
    refine XS.aload X16.here hx rfl (hb hby at_33) rfl rfl ?_
    show Steps _ _ _ (T16.setTop (mkF m 35 #[vJ q1, .second, vI p2, vJ q3, .second, vI p4, vR b1, .unset, .unset, .unset, .unset, .unset, .unset, .unset, .unset, .unset] [iR b1])) _
    refine XS.iconst X16.here hx rfl (hb hby at_35) ?_
    show Steps _ _ _ (T16.setTop (mkF m 36 #[vJ q1, .second, vI p2, vJ q3, .second, vI p4, vR b1, .unset, .unset, .unset, .unset, .unset, .unset, .unset, .unset, .unset] [iI 3, iR b1])) _
    refine XS.iloadN X16.here hx rfl (hb hby at_36) rfl ?_
    show Steps _ _ _ (T16.setTop (mkF m 37 #[vJ q1, .second, vI p2, vJ q3, .second, vI p4, vR b1, .unset, .unset, .unset, .unset, .unset, .unset, .unset, .unset, .unset] [iI p2, iI 3, iR b1])) _
    refine XS.bipush X16.here hx rfl (hb hby at_37) ?_
    show Steps _ _ _ (T16.setTop (mkF m 39 #[vJ q1, .second, vI p2, vJ q3, .second, vI p4, vR b1, .unset, .unset, .unset, .unset, .unset, .unset, .unset, .unset, .unset] [iI 64, iI p2, iI 3, iR b1])) _
    refine XS.iand X16.here hx rfl (hb hby at_39) rfl ?_
    show Steps _ _ _ (T16.setTop (mkF m 40 #[vJ q1, .second, vI p2, vJ q3, .second, vI p4, vR b1, .unset, .unset, .unset, .unset, .unset, .unset, .unset, .unset, .unset] [iI (p2 &&& (64 : Int32)), iI 3, iR b1])) _
    refine st18 _ ?_
    show Steps _ _ _ (T18.setTop (mkF m 50 #[vJ q1, .second, vI p2, vJ q3, .second, vI p4, vR b1, .unset, .unset, .unset, .unset, .unset, .unset, .unset, .unset, .unset] [iI v17, iI 3, iR b1])) _
    refine st22 _ ?_
    show Steps _ _ _ (T22.setTop (mkF m 51 #[vJ q1, .second, vI p2, vJ q3, .second, vI p4, vR b1, .unset, .unset, .unset, .unset, .unset, .unset, .unset, .unset, .unset] [])) _
    refine XS.aload X22.here hx rfl (hb hby at_51) rfl rfl ?_
    show Steps _ _ _ (T22.setTop (mkF m 53 #[vJ q1, .second, vI p2, vJ q3, .second, vI p4, vR b1, .unset, .unset, .unset, .unset, .unset, .unset, .unset, .unset, .unset] [iR b1])) _
    refine XS.iconst X22.here hx rfl (hb hby at_53) ?_
    show Steps _ _ _ (T22.setTop (mkF m 54 #[vJ q1, .second, vI p2, vJ q3, .second, vI p4, vR b1, .unset, .unset, .unset, .unset, .unset, .unset, .unset, .unset, .unset] [iI 4, iR b1])) _
    refine XS.lloadN X22.here hx rfl (hb hby at_54) rfl ?_
    show Steps _ _ _ (T22.setTop (mkF m 55 #[vJ q1, .second, vI p2, vJ q3, .second, vI p4, vR b1, .unset, .unset, .unset, .unset, .unset, .unset, .unset, .unset, .unset] [iJ q1, iI 4, iR b1])) _
    refine XS.iconst X22.here hx rfl (hb hby at_55) ?_
    show Steps _ _ _ (T22.setTop (mkF m 56 #[vJ q1, .second, vI p2, vJ q3, .second, vI p4, vR b1, .unset, .unset, .unset, .unset, .unset, .unset, .unset, .unset, .unset] [iI 4, iJ q1, iI 4, iR b1])) _
    refine st23 _ ?_
    rw [← hnb4]
    show Steps _ _ _ (T23.setTop (mkF m 59 #[vJ q1, .second, vI p2, vJ q3, .second, vI p4, vR b1, .unset, .unset, .unset, .unset, .unset, .unset, .unset, .unset, .unset] [iI nb4, iI 4, iR b1])) _
    refine st27 _ ?_
    show Steps _ _ _ (T27.setTop (mkF m 60 #[vJ q1, .second, vI p2, vJ q3, .second, vI p4, vR b1, .unset, .unset, .unset, .unset, .unset, .unset, .unset, .unset, .unset] [])) _
    refine XS.aload X27.here hx rfl (hb hby at_60) rfl rfl ?_
    show Steps _ _ _ (T27.setTop (mkF m 62 #[vJ q1, .second, vI p2, vJ q3, .second, vI p4, vR b1, .unset, .unset, .unset, .unset, .unset, .unset, .unset, .unset, .unset] [iR b1])) _
    refine XS.iconst X27.here hx rfl (hb hby at_62) ?_
    show Steps _ _ _ (T27.setTop (mkF m 63 #[vJ q1, .second, vI p2, vJ q3, .second, vI p4, vR b1, .unset, .unset, .unset, .unset, .unset, .unset, .unset, .unset, .unset] [iI 5, iR b1])) _
    refine XS.lloadN X27.here hx rfl (hb hby at_63) rfl ?_
    show Steps _ _ _ (T27.setTop (mkF m 64 #[vJ q1, .second, vI p2, vJ q3, .second, vI p4, vR b1, .unset, .unset, .unset, .unset, .unset, .unset, .unset, .unset, .unset] [iJ q1, iI 5, iR b1])) _
    refine XS.iconst X27.here hx rfl (hb hby at_64) ?_
    show Steps _ _ _ (T27.setTop (mkF m 65 #[vJ q1, .second, vI p2, vJ q3, .second, vI p4, vR b1, .unset, .unset, .unset, .unset, .unset, .unset, .unset, .unset, .unset] [iI 5, iJ q1, iI 5, iR b1])) _
    refine st28 _ ?_
    rw [← hnb5]
    show Steps _ _ _ (T28.setTop (mkF m 68 #[vJ q1, .second, vI p2, vJ q3, .second, vI p4, vR b1, .unset, .unset, .unset, .unset, .unset, .unset, .unset, .unset, .unset] [iI nb5, iI 5, iR b1])) _
    refine st32 _ ?_
    show Steps _ _ _ (T32.setTop (mkF m 69 #[vJ q1, .second, vI p2, vJ q3, .second, vI p4, vR b1, .unset, .unset, .unset, .unset, .unset, .unset, .unset, .unset, .unset] [])) _
    refine XS.aload X32.here hx rfl (hb hby at_69) rfl rfl ?_
    show Steps _ _ _ (T32.setTop (mkF m 71 #[vJ q1, .second, vI p2, vJ q3, .second, vI p4, vR b1, .unset, .unset, .unset, .unset, .unset, .unset, .unset, .unset, .unset] [iR b1])) _
    refine XS.bipush X32.here hx rfl (hb hby at_71) ?_
    show Steps _ _ _ (T32.setTop (mkF m 73 #[vJ q1, .second, vI p2, vJ q3, .second, vI p4, vR b1, .unset, .unset, .unset, .unset, .unset, .unset, .unset, .unset, .unset] [iI 6, iR b1])) _
    refine XS.lloadN X32.here hx rfl (hb hby at_73) rfl ?_
    show Steps _ _ _ (T32.setTop (mkF m 74 #[vJ q1, .second, vI p2, vJ q3, .second, vI p4, vR b1, .unset, .unset, .unset, .unset, .unset, .unset, .unset, .unset, .unset] [iJ q1, iI 6, iR b1])) _
    refine XS.bipush X32.here hx rfl (hb hby at_74) ?_
    show Steps _ _ _ (T32.setTop (mkF m 76 #[vJ q1, .second, vI p2, vJ q3, .second, vI p4, vR b1, .unset, .unset, .unset, .unset, .unset, .unset, .unset, .unset, .unset] [iI 6, iJ q1, iI 6, iR b1])) _
    refine st33 _ ?_
    rw [← hnb6]
    show Steps _ _ _ (T33.setTop (mkF m 79 #[vJ q1, .second, vI p2, vJ q3, .second, vI p4, vR b1, .unset, .unset, .unset, .unset, .unset, .unset, .unset, .unset, .unset] [iI nb6, iI 6, iR b1])) _
    refine st37 _ ?_
    show Steps _ _ _ (T37.setTop (mkF m 80 #[vJ q1, .second, vI p2, vJ q3, .second, vI p4, vR b1, .unset, .unset, .unset, .unset, .unset, .unset, .unset, .unset, .unset] [])) _
    refine XS.iconst X37.here hx rfl (hb hby at_80) ?_
    show Steps _ _ _ (T37.setTop (mkF m 81 #[vJ q1, .second, vI p2, vJ q3, .second, vI p4, vR b1, .unset, .unset, .unset, .unset, .unset, .unset, .unset, .unset, .unset] [iI 2])) _
    refine XS.iloadN X37.here hx rfl (hb hby at_81) rfl ?_
    show Steps _ _ _ (T37.setTop (mkF m 82 #[vJ q1, .second, vI p2, vJ q3, .second, vI p4, vR b1, .unset, .unset, .unset, .unset, .unset, .unset, .unset, .unset, .unset] [iI p2, iI 2])) _
    refine XS.iconst X37.here hx rfl (hb hby at_82) ?_
    show Steps _ _ _ (T37.setTop (mkF m 83 #[vJ q1, .second, vI p2, vJ q3, .second, vI p4, vR b1, .unset, .unset, .unset, .unset, .unset, .unset, .unset, .unset, .unset] [iI 3, iI p2, iI 2])) _
    refine XS.iand X37.here hx rfl (hb hby at_83) rfl ?_
    show Steps _ _ _ (T37.setTop (mkF m 84 #[vJ q1, .second, vI p2, vJ q3, .second, vI p4, vR b1, .unset, .unset, .unset, .unset, .unset, .unset, .unset, .unset, .unset] [iI (p2 &&& (3 : Int32)), iI 2])) _
    refine st38 _ ?_
    show Steps _ _ _ (T38.setTop (mkF m 87 #[vJ q1, .second, vI p2, vJ q3, .second, vI p4, vR b1, .unset, .unset, .unset, .unset, .unset, .unset, .unset, .unset, .unset] [iI (own_min (2 : Int32) (p2 &&& (3 : Int32)))])) _
    refine XS.istore X38.here hx rfl (hb hby at_87) rfl (l' := #[vJ q1, .second, vI p2, vJ q3, .second, vI p4, vR b1, vI (own_min (2 : Int32) (p2 &&& (3 : Int32))), .unset, .unset, .unset, .unset, .unset, .unset, .unset, .unset]) rfl ?_
    rw [← hfv]
    show Steps _ _ _ (T38.setTop (mkF m 89 #[vJ q1, .second, vI p2, vJ q3, .second, vI p4, vR b1, vI fv, .unset, .unset, .unset, .unset, .unset, .unset, .unset, .unset] [])) _
    refine XS.bipush X38.here hx rfl (hb hby at_89) ?_
    show Steps _ _ _ (T38.setTop (mkF m 91 #[vJ q1, .second, vI p2, vJ q3, .second, vI p4, vR b1, vI fv, .unset, .unset, .unset, .unset, .unset, .unset, .unset, .unset] [iI 7])) _
    refine XS.iconst X38.here hx rfl (hb hby at_91) ?_
    show Steps _ _ _ (T38.setTop (mkF m 92 #[vJ q1, .second, vI p2, vJ q3, .second, vI p4, vR b1, vI fv, .unset, .unset, .unset, .unset, .unset, .unset, .unset, .unset] [iI 5, iI 7])) _
    refine XS.iloadN X38.here hx rfl (hb hby at_92) rfl ?_
    show Steps _ _ _ (T38.setTop (mkF m 93 #[vJ q1, .second, vI p2, vJ q3, .second, vI p4, vR b1, vI fv, .unset, .unset, .unset, .unset, .unset, .unset, .unset, .unset] [iI p2, iI 5, iI 7])) _
    refine XS.iconst X38.here hx rfl (hb hby at_93) ?_
    show Steps _ _ _ (T38.setTop (mkF m 94 #[vJ q1, .second, vI p2, vJ q3, .second, vI p4, vR b1, vI fv, .unset, .unset, .unset, .unset, .unset, .unset, .unset, .unset] [iI 2, iI p2, iI 5, iI 7])) _
    refine XS.iushr X38.here hx rfl (hb hby at_94) rfl ?_
    show Steps _ _ _ (T38.setTop (mkF m 95 #[vJ q1, .second, vI p2, vJ q3, .second, vI p4, vR b1, vI fv, .unset, .unset, .unset, .unset, .unset, .unset, .unset, .unset] [iI ((p2.toUInt32 >>> ((2 : Int32) &&& 31).toUInt32).toInt32), iI 5, iI 7])) _
    refine XS.iconst X38.here hx rfl (hb hby at_95) ?_
    show Steps _ _ _ (T38.setTop (mkF m 96 #[vJ q1, .second, vI p2, vJ q3, .second, vI p4, vR b1, vI fv, .unset, .unset, .unset, .unset, .unset, .unset, .unset, .unset] [iI 3, iI ((p2.toUInt32 >>> ((2 : Int32) &&& 31).toUInt32).toInt32), iI 5, iI 7])) _
    refine XS.iand X38.here hx rfl (hb hby at_96) rfl ?_
    show Steps _ _ _ (T38.setTop (mkF m 97 #[vJ q1, .second, vI p2, vJ q3, .second, vI p4, vR b1, vI fv, .unset, .unset, .unset, .unset, .unset, .unset, .unset, .unset] [iI (((p2.toUInt32 >>> ((2 : Int32) &&& 31).toUInt32).toInt32) &&& (3 : Int32)), iI 5, iI 7])) _
    refine XS.iadd X38.here hx rfl (hb hby at_97) rfl ?_
    show Steps _ _ _ (T38.setTop (mkF m 98 #[vJ q1, .second, vI p2, vJ q3, .second, vI p4, vR b1, vI fv, .unset, .unset, .unset, .unset, .unset, .unset, .unset, .unset] [iI ((5 : Int32) + (((p2.toUInt32 >>> ((2 : Int32) &&& 31).toUInt32).toInt32) &&& (3 : Int32))), iI 7])) _
    refine st40 _ ?_
    show Steps _ _ _ (T40.setTop (mkF m 101 #[vJ q1, .second, vI p2, vJ q3, .second, vI p4, vR b1, vI fv, .unset, .unset, .unset, .unset, .unset, .unset, .unset, .unset] [iI (own_min (7 : Int32) ((5 : Int32) + (((p2.toUInt32 >>> ((2 : Int32) &&& 31).toUInt32).toInt32) &&& (3 : Int32))))])) _
    refine XS.istore X40.here hx rfl (hb hby at_101) rfl (l' := #[vJ q1, .second, vI p2, vJ q3, .second, vI p4, vR b1, vI fv, vI (own_min (7 : Int32) ((5 : Int32) + (((p2.toUInt32 >>> ((2 : Int32) &&& 31).toUInt32).toInt32) &&& (3 : Int32)))), .unset, .unset, .unset, .unset, .unset, .unset, .unset]) rfl ?_
    rw [← htv]
    show Steps _ _ _ (T40.setTop (mkF m 103 #[vJ q1, .second, vI p2, vJ q3, .second, vI p4, vR b1, vI fv, vI tv, .unset, .unset, .unset, .unset, .unset, .unset, .unset] [])) _
    refine XS.iloadN X40.here hx rfl (hb hby at_103) rfl ?_
    show Steps _ _ _ (T40.setTop (mkF m 104 #[vJ q1, .second, vI p2, vJ q3, .second, vI p4, vR b1, vI fv, vI tv, .unset, .unset, .unset, .unset, .unset, .unset, .unset] [iI p2])) _
    refine XS.iconst X40.here hx rfl (hb hby at_104) ?_
    show Steps _ _ _ (T40.setTop (mkF m 105 #[vJ q1, .second, vI p2, vJ q3, .second, vI p4, vR b1, vI fv, vI tv, .unset, .unset, .unset, .unset, .unset, .unset, .unset] [iI 4, iI p2])) _
    refine XS.iushr X40.here hx rfl (hb hby at_105) rfl ?_
    show Steps _ _ _ (T40.setTop (mkF m 106 #[vJ q1, .second, vI p2, vJ q3, .second, vI p4, vR b1, vI fv, vI tv, .unset, .unset, .unset, .unset, .unset, .unset, .unset] [iI ((p2.toUInt32 >>> ((4 : Int32) &&& 31).toUInt32).toInt32)])) _
    refine XS.iconst X40.here hx rfl (hb hby at_106) ?_
    show Steps _ _ _ (T40.setTop (mkF m 107 #[vJ q1, .second, vI p2, vJ q3, .second, vI p4, vR b1, vI fv, vI tv, .unset, .unset, .unset, .unset, .unset, .unset, .unset] [iI 1, iI ((p2.toUInt32 >>> ((4 : Int32) &&& 31).toUInt32).toInt32)])) _
    refine XS.iand X40.here hx rfl (hb hby at_107) rfl ?_
    show Steps _ _ _ (T40.setTop (mkF m 108 #[vJ q1, .second, vI p2, vJ q3, .second, vI p4, vR b1, vI fv, vI tv, .unset, .unset, .unset, .unset, .unset, .unset, .unset] [iI (((p2.toUInt32 >>> ((4 : Int32) &&& 31).toUInt32).toInt32) &&& (1 : Int32))])) _
    refine XS.istore X40.here hx rfl (hb hby at_108) rfl (l' := #[vJ q1, .second, vI p2, vJ q3, .second, vI p4, vR b1, vI fv, vI tv, vI (((p2.toUInt32 >>> ((4 : Int32) &&& 31).toUInt32).toInt32) &&& (1 : Int32)), .unset, .unset, .unset, .unset, .unset, .unset]) rfl ?_
    rw [← hkv]
    show Steps _ _ _ (T40.setTop (mkF m 110 #[vJ q1, .second, vI p2, vJ q3, .second, vI p4, vR b1, vI fv, vI tv, vI kv, .unset, .unset, .unset, .unset, .unset, .unset] [])) _
    refine XS.iload X40.here hx rfl (hb hby at_110) rfl ?_
    show Steps _ _ _ (T40.setTop (mkF m 112 #[vJ q1, .second, vI p2, vJ q3, .second, vI p4, vR b1, vI fv, vI tv, vI kv, .unset, .unset, .unset, .unset, .unset, .unset] [iI kv])) _
    refine st44 _ ?_
    show Steps _ _ _ (T44.setTop (mkF m 121 #[vJ q1, .second, vI p2, vJ q3, .second, vI p4, vR b1, vI fv, vI tv, vI kv, .unset, .unset, .unset, .unset, .unset, .unset] [iI v43])) _
    refine XS.istore X44.here hx rfl (hb hby at_121) rfl (l' := #[vJ q1, .second, vI p2, vJ q3, .second, vI p4, vR b1, vI fv, vI tv, vI kv, vI v43, .unset, .unset, .unset, .unset, .unset]) rfl ?_
    show Steps _ _ _ (T44.setTop (mkF m 123 #[vJ q1, .second, vI p2, vJ q3, .second, vI p4, vR b1, vI fv, vI tv, vI kv, vI v43, .unset, .unset, .unset, .unset, .unset] [])) _
    refine XS.iload X44.here hx rfl (hb hby at_123) rfl ?_
    show Steps _ _ _ (T44.setTop (mkF m 125 #[vJ q1, .second, vI p2, vJ q3, .second, vI p4, vR b1, vI fv, vI tv, vI kv, vI v43, .unset, .unset, .unset, .unset, .unset] [iI kv])) _
    refine st47 _ ?_
    show Steps _ _ _ (T47.setTop (mkF m 134 #[vJ q1, .second, vI p2, vJ q3, .second, vI p4, vR b1, vI fv, vI tv, vI kv, vI v43, .unset, .unset, .unset, .unset, .unset] [iI v46])) _
    refine XS.istore X47.here hx rfl (hb hby at_134) rfl (l' := #[vJ q1, .second, vI p2, vJ q3, .second, vI p4, vR b1, vI fv, vI tv, vI kv, vI v43, vI v46, .unset, .unset, .unset, .unset]) rfl ?_
    show Steps _ _ _ (T47.setTop (mkF m 136 #[vJ q1, .second, vI p2, vJ q3, .second, vI p4, vR b1, vI fv, vI tv, vI kv, vI v43, vI v46, .unset, .unset, .unset, .unset] [])) _
    refine XS.iload X47.here hx rfl (hb hby at_136) rfl ?_
    show Steps _ _ _ (T47.setTop (mkF m 138 #[vJ q1, .second, vI p2, vJ q3, .second, vI p4, vR b1, vI fv, vI tv, vI kv, vI v43, vI v46, .unset, .unset, .unset, .unset] [iI p4])) _
    refine XS.iconst X47.here hx rfl (hb hby at_138) ?_
    show Steps _ _ _ (T47.setTop (mkF m 139 #[vJ q1, .second, vI p2, vJ q3, .second, vI p4, vR b1, vI fv, vI tv, vI kv, vI v43, vI v46, .unset, .unset, .unset, .unset] [iI 3, iI p4])) _
    refine XS.iand X47.here hx rfl (hb hby at_139) rfl ?_
    show Steps _ _ _ (T47.setTop (mkF m 140 #[vJ q1, .second, vI p2, vJ q3, .second, vI p4, vR b1, vI fv, vI tv, vI kv, vI v43, vI v46, .unset, .unset, .unset, .unset] [iI (p4 &&& (3 : Int32))])) _
    refine XS.istore X47.here hx rfl (hb hby at_140) rfl (l' := #[vJ q1, .second, vI p2, vJ q3, .second, vI p4, vR b1, vI fv, vI tv, vI kv, vI v43, vI v46, vI (p4 &&& (3 : Int32)), .unset, .unset, .unset]) rfl ?_
    rw [← hlv]
    exact kt
  rcases qlv with rfl | rfl | rfl | rfl
  · obtain ⟨T51, h51, k51, X51, e51, E51, A51, st51⟩ := newP X47 hx hZ (hw _ (List.mem_of_getElem? (i := 0) rfl)) e47 (g := (mkF m 148 #[vJ q1, .second, vI p2, vJ q3, .second, vI p4, vR b1, vI fv, vI tv, vI kv, vI v43, vI v46, vI 0, .unset, .unset, .unset] [iI 0])) rfl (hb hby at_148) rfl (by decide) (cap := 0) (by decide) (by decide) (by decide) (by decide)
    obtain ⟨b51, g51⟩ : ∃ z, z = h37.size := ⟨_, rfl⟩
    rw [← g51] at A51 st51
    have ne_b1_b51 : b1 ≠ b51 := Nat.ne_of_lt (Nat.lt_of_lt_of_le V37.lt (Nat.le_of_eq g51.symm))
    have sz_b51 : h0.size ≤ b51 := Nat.le_trans K37.1 (Nat.le_of_eq g51.symm)
    have g_b51 : n0 ≤ b51 := Nat.le_trans Z0 sz_b51
    have K51 : Keep h0 h51 [] := K37.ext E51
    have V51 : Arv Z h51 b51 k51 .byte (0 : Int32) [] (.int (0 : Int32)) := (Arv.new A51 (by decide)).pad (pad_rep [] (.int (0 : Int32)) 0)
    obtain ⟨T52, h52, X52, e52, E52, A52, D52, -, st52⟩ := newO X51 hx hZ hown (hw _ (List.mem_of_getElem? (i := 9) rfl)) (hw _ (List.mem_of_getElem? (i := 10) rfl)) (hw _ (List.mem_of_getElem? (i := 11) rfl)) e51 (g := (mkF m 244 #[vJ q1, .second, vI p2, vJ q3, .second, vI p4, vR b1, vI fv, vI tv, vI kv, vI v43, vI v46, vI 0, vR b51, .unset, .unset] [])) rfl (hb hby at_244) (by decide) (by decide)
    obtain ⟨b52, g52⟩ : ∃ z, z = h51.size := ⟨_, rfl⟩
    rw [← g52] at A52 D52 st52
    have fk53 := (V37.ext E51)
    have ne_b1_b52 : b1 ≠ b52 := Nat.ne_of_lt (Nat.lt_of_lt_of_le fk53.lt (Nat.le_of_eq g52.symm))
    have ne_b51_b52 : b51 ≠ b52 := Nat.ne_of_lt (Nat.lt_of_lt_of_le V51.lt (Nat.le_of_eq g52.symm))
    have sz_b52 : h0.size ≤ b52 := Nat.le_trans K51.1 (Nat.le_of_eq g52.symm)
    have g_b52 : n0 ≤ b52 := Nat.le_trans Z0 sz_b52
    have K52 : Keep h0 h52 [] := K51.ext E52
    have F_starts_b52 : Fld Z h52 b52 "com/example/tidemine/tidemine/TextFormat$Tokens" "starts" "[I" .null := D52 (Or.inl (hw _ (List.mem_of_getElem? (i := 20) rfl))) (ty := (.array .int)) (by decide)
    have F_ends_b52 : Fld Z h52 b52 "com/example/tidemine/tidemine/TextFormat$Tokens" "ends" "[I" .null := D52 (Or.inl (hw _ (List.mem_of_getElem? (i := 22) rfl))) (ty := (.array .int)) (by decide)
    have F_line_b52 : Fld Z h52 b52 "com/example/tidemine/tidemine/TextFormat$Tokens" "line" "[B" .null := D52 (Or.inl (hw _ (List.mem_of_getElem? (i := 29) rfl))) (ty := (.array .byte)) (by decide)
    have F_count_b52 : Fld Z h52 b52 "com/example/tidemine/tidemine/TextFormat$Tokens" "count" "I" (.int (0 : Int32)) := D52 (Or.inl (hw _ (List.mem_of_getElem? (i := 31) rfl))) (ty := .int) (by decide)
    obtain ⟨_, _, ⟨T54, L54, k54, n54⟩, -, X54, ⟨Lc54, hQ54, l54, y54, z54⟩, st54⟩ := X52.specialBack hx (y := (⟨"com/example/tidemine/tidemine/TextFormat$Tokens", "<init>", "()V"⟩ : MethodName)) rfl hown (mvT hZ (hw _ (List.mem_of_getElem? (i := 12) rfl))) (mvT hZ (hw _ (List.mem_of_getElem? (i := 13) rfl))) (mvT hZ (hw _ (List.mem_of_getElem? (i := 14) rfl))) (by decide) (backOf (W := 1) (rm3 l Z a0 hw [] b52 h52 n0 (Nat.le_trans Z0 K52.1) A52 g_b52 F_line_b52 F_starts_b52 F_ends_b52 F_count_b52) hZ (hw _ (List.mem_of_getElem? (i := 14) rfl)) (hw _ (List.mem_of_getElem? (i := 11) rfl)) (by decide) (by decide)) (g := (mkF m 248 #[vJ q1, .second, vI p2, vJ q3, .second, vI p4, vR b1, vI fv, vI tv, vI kv, vI v43, vI v46, vI 0, vR b51, .unset, .unset] [iR b52, iR b52])) rfl (by rw [hml]; rfl) (Steps.refl _) (a := b52) (argsL := []) (rest := [(.ref b52)]) (lenOf pd_3 rfl) rfl (by show 2 * 0 + _ ≤ _; exact Nat.le_of_eq rfl) (hb hby at_248) (fun _ _ => ⟨rfl, e52, (by decide : 3 + 2 ≤ _), (by decide : 11 + 32 ≤ _)⟩)
    dsimp only [Pt.U, Pt.locs, Pt.cells, Pt.slots] at X54 l54 y54 z54 st54 hQ54
    subst l54 y54 z54
    obtain ⟨s1, s2, kt1, kt2, rfl, N54q, K54q, E54q, Fl54q, Fs54q, Fe54q, Fc54q, V154q, V254q, z_s1, z_s2, ne_s1_s2⟩ := hQ54
    have fk55 := (fk53.ext E52)
    have fk56 := (V51.ext E52)
    have ne_b1_s1 : b1 ≠ s1 := Nat.ne_of_lt (Nat.lt_of_lt_of_le fk55.lt z_s1)
    have ne_b51_s1 : b51 ≠ s1 := Nat.ne_of_lt (Nat.lt_of_lt_of_le fk56.lt z_s1)
    have ne_b52_s1 : b52 ≠ s1 := Nat.ne_of_lt (Nat.lt_of_lt_of_le A52.lt z_s1)
    have sz_s1 : h0.size ≤ s1 := Nat.le_trans K52.1 z_s1
    have g_s1 : n0 ≤ s1 := Nat.le_trans Z0 sz_s1
    have ne_b1_s2 : b1 ≠ s2 := Nat.ne_of_lt (Nat.lt_of_lt_of_le fk55.lt z_s2)
    have ne_b51_s2 : b51 ≠ s2 := Nat.ne_of_lt (Nat.lt_of_lt_of_le fk56.lt z_s2)
    have ne_b52_s2 : b52 ≠ s2 := Nat.ne_of_lt (Nat.lt_of_lt_of_le A52.lt z_s2)
    have sz_s2 : h0.size ≤ s2 := Nat.le_trans K52.1 z_s2
    have g_s2 : n0 ≤ s2 := Nat.le_trans Z0 sz_s2
    have N54 := Fr.app N37 N54q
    have K54 : Keep h0 T54.heap [] := Keep.trans K52 K54q (allS (Or.inr sz_b52) all0)
    have fk58 := (fk55.keep K54q (ninS ne_b1_b52 nin0))
    obtain ⟨cq57, kq57, q57a, q57b, q57c⟩ := isOf hZ rfl E54q
    obtain ⟨_, _, ⟨T57, L57, k57, n57⟩, -, X57, ⟨Lc57, hQ57, l57, y57, z57⟩, st57⟩ := X54.virtualBack hx (y := (⟨"com/example/tidemine/tidemine/TextFormat$Tokens", "split", "([BII)V"⟩ : MethodName)) (z := (⟨"com/example/tidemine/tidemine/TextFormat$Tokens", "split", "([BII)V"⟩ : MethodName)) hown (mvT hZ (hw _ (List.mem_of_getElem? (i := 23) rfl))) (mvT hZ (hw _ (List.mem_of_getElem? (i := 24) rfl))) (notFace_of_selects (args := #[]) (mvT hZ (hw _ (List.mem_of_getElem? (i := 26) rfl)))) (mvT hZ (hw _ (List.mem_of_getElem? (i := 26) rfl))) (mvT hZ (hw _ (List.mem_of_getElem? (i := 25) rfl))) (by decide) (backOf (W := 0) (rm5 l Z a0 hw [] b52 b1 fv tv s1 s2 kt1 kt2 k1 (nar .byte nb0) (nar .byte nb1) (nar .byte nb2) (nar .byte v17) (nar .byte nb4) (nar .byte nb5) (nar .byte nb6) T54.heap n0 (Nat.le_trans Z0 K54.1) E54q g_b52 g_s1 g_s2 Fl54q Fs54q Fe54q Fc54q V154q V254q fk58 (Ne.symm ne_b1_b52) ne_b52_s1 ne_b52_s2 ne_b1_s1 ne_b1_s2 ne_s1_s2 hx0 hx1 hx2 hx3 hx4 hx5 hx6 qfv qtv) hZ (hw _ (List.mem_of_getElem? (i := 27) rfl)) (hw _ (List.mem_of_getElem? (i := 11) rfl)) (by decide) (by decide)) q57a q57c (g := (mkF m 261 #[vJ q1, .second, vI p2, vJ q3, .second, vI p4, vR b1, vI fv, vI tv, vI kv, vI v43, vI v46, vI 0, vR b51, vR b52, .unset] [iI tv, iI fv, iR b1, iR b52])) rfl (by rw [hml]; rfl) (Steps.refl _) (argsL := [(.ref b1), (.int fv), (.int tv)]) (rest := []) (lenOf pd_4 rfl) rfl (by show 2 * 0 + _ ≤ _; exact Nat.le_of_eq rfl) (hb hby at_261) (fun _ _ => ⟨rfl, rfl, (by decide : 5 + 0 ≤ _), (by decide : 43 + 0 ≤ _)⟩)
    dsimp only [Pt.U, Pt.locs, Pt.cells, Pt.slots] at X57 l57 y57 z57 st57 hQ57
    subst l57 y57 z57
    obtain ⟨rfl, N57q, K57q, E57q, Fl57q, Fs57q, Fe57q, V157q, V257q⟩ := hQ57
    have N57 := Fr.app N54 N57q
    have K57 : Keep h0 T57.heap [] := Keep.trans K54 K57q (allS (Or.inr sz_b52) (allS (Or.inr sz_s1) (allS (Or.inr sz_s2) all0)))
    obtain ⟨v59, hv59⟩ : ∃ z : Int32, z = (if (v46 - v43) = (0 : Int32) then (1 : Int32) else (0 : Int32)) := ⟨_, rfl⟩
    obtain ⟨T60, X60, e60, st60⟩ : own_Mid X57 T57.heap (mkF m 271 #[vJ q1, .second, vI p2, vJ q3, .second, vI p4, vR b1, vI fv, vI tv, vI kv, vI v43, vI v46, vI 0, vR b51, vR b52, .unset] [iI 0, iI (v46 - v43)]) (mkF m 337 #[vJ q1, .second, vI p2, vJ q3, .second, vI p4, vR b1, vI fv, vI tv, vI kv, vI v43, vI v46, vI 0, vR b51, vR b52, .unset] [iI v59]) := by
      by_cases hc61 : (v46 - v43) = (0 : Int32)
      · refine ⟨T57, X57, rfl, fun t kt => ?_⟩
        subst hv59
        simp only [if_pos hc61] at kt
        show Steps _ _ _ (T57.setTop (mkF m 271 #[vJ q1, .second, vI p2, vJ q3, .second, vI p4, vR b1, vI fv, vI tv, vI kv, vI v43, vI v46, vI 0, vR b51, vR b52, .unset] [iI 0, iI (v46 - v43)])) _
        refine XS.icmpNo X57.here hx rfl (hb hby at_271) rfl (teq hc61).2 ?_
        show Steps _ _ _ (T57.setTop (mkF m 274 #[vJ q1, .second, vI p2, vJ q3, .second, vI p4, vR b1, vI fv, vI tv, vI kv, vI v43, vI v46, vI 0, vR b51, vR b52, .unset] [])) _
        refine XS.iload X57.here hx rfl (hb hby at_274) rfl ?_
        show Steps _ _ _ (T57.setTop (mkF m 276 #[vJ q1, .second, vI p2, vJ q3, .second, vI p4, vR b1, vI fv, vI tv, vI kv, vI v43, vI v46, vI 0, vR b51, vR b52, .unset] [iI 0])) _
        refine XS.iconst X57.here hx rfl (hb hby at_276) ?_
        show Steps _ _ _ (T57.setTop (mkF m 277 #[vJ q1, .second, vI p2, vJ q3, .second, vI p4, vR b1, vI fv, vI tv, vI kv, vI v43, vI v46, vI 0, vR b51, vR b52, .unset] [iI 1, iI 0])) _
        refine XS.icmpYes X57.here hx rfl (pc0 := 277) (pc' := 292) rfl (hb hby at_277) rfl (tlt (by decide : (0 : Int32) < (1 : Int32))).1 (by decide) (by decide) ?_
        show Steps _ _ _ (T57.setTop (mkF m 292 #[vJ q1, .second, vI p2, vJ q3, .second, vI p4, vR b1, vI fv, vI tv, vI kv, vI v43, vI v46, vI 0, vR b51, vR b52, .unset] [])) _
        refine XS.iload X57.here hx rfl (hb hby at_292) rfl ?_
        show Steps _ _ _ (T57.setTop (mkF m 294 #[vJ q1, .second, vI p2, vJ q3, .second, vI p4, vR b1, vI fv, vI tv, vI kv, vI v43, vI v46, vI 0, vR b51, vR b52, .unset] [iI 0])) _
        refine XS.iconst X57.here hx rfl (hb hby at_294) ?_
        show Steps _ _ _ (T57.setTop (mkF m 295 #[vJ q1, .second, vI p2, vJ q3, .second, vI p4, vR b1, vI fv, vI tv, vI kv, vI v43, vI v46, vI 0, vR b51, vR b52, .unset] [iI 2, iI 0])) _
        refine XS.icmpYes X57.here hx rfl (pc0 := 295) (pc' := 312) rfl (hb hby at_295) rfl (tlt (by decide : (0 : Int32) < (2 : Int32))).1 (by decide) (by decide) ?_
        show Steps _ _ _ (T57.setTop (mkF m 312 #[vJ q1, .second, vI p2, vJ q3, .second, vI p4, vR b1, vI fv, vI tv, vI kv, vI v43, vI v46, vI 0, vR b51, vR b52, .unset] [])) _
        refine XS.iload X57.here hx rfl (hb hby at_312) rfl ?_
        show Steps _ _ _ (T57.setTop (mkF m 314 #[vJ q1, .second, vI p2, vJ q3, .second, vI p4, vR b1, vI fv, vI tv, vI kv, vI v43, vI v46, vI 0, vR b51, vR b52, .unset] [iI 0])) _
        refine XS.iconst X57.here hx rfl (hb hby at_314) ?_
        show Steps _ _ _ (T57.setTop (mkF m 315 #[vJ q1, .second, vI p2, vJ q3, .second, vI p4, vR b1, vI fv, vI tv, vI kv, vI v43, vI v46, vI 0, vR b51, vR b52, .unset] [iI 3, iI 0])) _
        refine XS.icmpYes X57.here hx rfl (pc0 := 315) (pc' := 332) rfl (hb hby at_315) rfl (tlt (by decide : (0 : Int32) < (3 : Int32))).1 (by decide) (by decide) ?_
        show Steps _ _ _ (T57.setTop (mkF m 332 #[vJ q1, .second, vI p2, vJ q3, .second, vI p4, vR b1, vI fv, vI tv, vI kv, vI v43, vI v46, vI 0, vR b51, vR b52, .unset] [])) _
        refine XS.iconst X57.here hx rfl (hb hby at_332) ?_
        show Steps _ _ _ (T57.setTop (mkF m 333 #[vJ q1, .second, vI p2, vJ q3, .second, vI p4, vR b1, vI fv, vI tv, vI kv, vI v43, vI v46, vI 0, vR b51, vR b52, .unset] [iI 1])) _
        refine XS.goto X57.here hx rfl (pc0 := 333) (pc' := 337) rfl (hb hby at_333) (by decide) (by decide) ?_
        exact kt
      · refine ⟨T57, X57, rfl, fun t kt => ?_⟩
        subst hv59
        simp only [if_neg hc61] at kt
        show Steps _ _ _ (T57.setTop (mkF m 271 #[vJ q1, .second, vI p2, vJ q3, .second, vI p4, vR b1, vI fv, vI tv, vI kv, vI v43, vI v46, vI 0, vR b51, vR b52, .unset] [iI 0, iI (v46 - v43)])) _
        refine XS.icmpYes X57.here hx rfl (pc0 := 271) (pc' := 336) rfl (hb hby at_271) rfl (feq hc61).2 (by decide) (by decide) ?_
        show Steps _ _ _ (T57.setTop (mkF m 336 #[vJ q1, .second, vI p2, vJ q3, .second, vI p4, vR b1, vI fv, vI tv, vI kv, vI v43, vI v46, vI 0, vR b51, vR b52, .unset] [])) _
        refine XS.iconst X57.here hx rfl (hb hby at_336) ?_
        exact kt
    have fk63 := (fk58.keep K57q (ninS ne_b1_b52 (ninS ne_b1_s1 (ninS ne_b1_s2 nin0))))
    have fk64 := ((fk56.keep K54q (ninS ne_b51_b52 nin0)).keep K57q (ninS ne_b51_b52 (ninS ne_b51_s1 (ninS ne_b51_s2 nin0))))
    obtain ⟨cq62, kq62, q62a, q62b, q62c⟩ := isOf hZ e60 E57q
    obtain ⟨_, _, ⟨T62, L62, k62, n62⟩, -, X62, ⟨Lc62, hQ62, l62, y62, z62⟩, st62⟩ := X60.virtualBack hx (y := (⟨"com/example/tidemine/tidemine/TextFormat$Tokens", "is", "(I[B)Z"⟩ : MethodName)) (z := (⟨"com/example/tidemine/tidemine/TextFormat$Tokens", "is", "(I[B)Z"⟩ : MethodName)) hown (mvT hZ (hw _ (List.mem_of_getElem? (i := 36) rfl))) (mvT hZ (hw _ (List.mem_of_getElem? (i := 37) rfl))) (notFace_of_selects (args := #[]) (mvT hZ (hw _ (List.mem_of_getElem? (i := 39) rfl)))) (mvT hZ (hw _ (List.mem_of_getElem? (i := 39) rfl))) (mvT hZ (hw _ (List.mem_of_getElem? (i := 38) rfl))) (by decide) (backOf (W := 0) (rm7_0 l Z a0 hw [] b52 kv b51 s1 s2 b1 kt1 kt2 k1 k51 fv tv (nar .byte nb0) (nar .byte nb1) (nar .byte nb2) (nar .byte v17) (nar .byte nb4) (nar .byte nb5) (nar .byte nb6)  T57.heap Fl57q Fs57q Fe57q V157q V257q fk63 fk64 qkv qfv qtv) hZ (hw _ (List.mem_of_getElem? (i := 40) rfl)) (hw _ (List.mem_of_getElem? (i := 11) rfl)) (by decide) (by decide)) q62a q62c (g := (mkF m 345 #[vJ q1, .second, vI p2, vJ q3, .second, vI p4, vR b1, vI fv, vI tv, vI kv, vI v43, vI v46, vI 0, vR b51, vR b52, vI v59] [iR b51, iI kv, iR b52])) rfl (by rw [hml]; rfl) (Steps.refl _) (argsL := [(.int kv), (.ref b51)]) (rest := []) (lenOf pd_5 rfl) rfl (by show 2 * 0 + _ ≤ _; exact Nat.le_of_eq rfl) (hb hby at_345) (fun _ _ => ⟨rfl, e60, (by decide : 5 + 0 ≤ _), (by decide : 43 + 0 ≤ _)⟩)
    dsimp only [Pt.U, Pt.locs, Pt.cells, Pt.slots] at X62 l62 y62 z62 st62 hQ62
    subst l62 y62 z62
    obtain ⟨rfl, rfl, e62⟩ := hQ62
    try rw [List.append_nil] at X62
    have hh65 : (own_is_0 kv fv tv (nar .byte nb0) (nar .byte nb1) (nar .byte nb2) (nar .byte v17) (nar .byte nb4) (nar .byte nb5) (nar .byte nb6) ) = v59 := (by rw [hv59]; exact own_fin0 _ _ _ _ _ _ _ _ _ _ _ _ hv43 hv46)
    obtain ⟨fs, hr, hrun, hended, hW, hsame⟩ := X62.leave (v := some (.int (1 : Int32))) (fun h => by rw [Bd.returns] at h; cases h)
    refine ⟨_, _, pre50 _ ?_, hrun, hended, _, _, rfl, ?_, ⟨_, rfl⟩, hW, hsame.mono (by decide) (by decide)⟩
    · show Steps _ _ _ (T47.setTop (mkF m 142 #[vJ q1, .second, vI p2, vJ q3, .second, vI p4, vR b1, vI fv, vI tv, vI kv, vI v43, vI v46, vI 0, .unset, .unset, .unset] [])) _
      refine XS.iload X47.here hx rfl (hb hby at_142) rfl ?_
      show Steps _ _ _ (T47.setTop (mkF m 144 #[vJ q1, .second, vI p2, vJ q3, .second, vI p4, vR b1, vI fv, vI tv, vI kv, vI v43, vI v46, vI 0, .unset, .unset, .unset] [iI 0])) _
      refine XS.ifNo X47.here hx rfl (hb hby at_144) rfl ((if0 _ _).trans (teq (by decide : (0 : Int32) = (0 : Int32))).2) ?_
      show Steps _ _ _ (T47.setTop (mkF m 147 #[vJ q1, .second, vI p2, vJ q3, .second, vI p4, vR b1, vI fv, vI tv, vI kv, vI v43, vI v46, vI 0, .unset, .unset, .unset] [])) _
      refine XS.iconst X47.here hx rfl (hb hby at_147) ?_
      show Steps _ _ _ (T47.setTop (mkF m 148 #[vJ q1, .second, vI p2, vJ q3, .second, vI p4, vR b1, vI fv, vI tv, vI kv, vI v43, vI v46, vI 0, .unset, .unset, .unset] [iI 0])) _
      refine st51 _ ?_
      show Steps _ _ _ (T51.setTop (mkF m 150 #[vJ q1, .second, vI p2, vJ q3, .second, vI p4, vR b1, vI fv, vI tv, vI kv, vI v43, vI v46, vI 0, .unset, .unset, .unset] [iR b51])) _
      refine XS.goto X51.here hx rfl (pc0 := 150) (pc' := 180) rfl (hb hby at_150) (by decide) (by decide) ?_
      show Steps _ _ _ (T51.setTop (mkF m 180 #[vJ q1, .second, vI p2, vJ q3, .second, vI p4, vR b1, vI fv, vI tv, vI kv, vI v43, vI v46, vI 0, .unset, .unset, .unset] [iR b51])) _
      refine XS.astore X51.here hx rfl (hb hby at_180) rfl rfl (l' := #[vJ q1, .second, vI p2, vJ q3, .second, vI p4, vR b1, vI fv, vI tv, vI kv, vI v43, vI v46, vI 0, vR b51, .unset, .unset]) rfl ?_
      show Steps _ _ _ (T51.setTop (mkF m 182 #[vJ q1, .second, vI p2, vJ q3, .second, vI p4, vR b1, vI fv, vI tv, vI kv, vI v43, vI v46, vI 0, vR b51, .unset, .unset] [])) _
      refine XS.iload X51.here hx rfl (hb hby at_182) rfl ?_
      show Steps _ _ _ (T51.setTop (mkF m 184 #[vJ q1, .second, vI p2, vJ q3, .second, vI p4, vR b1, vI fv, vI tv, vI kv, vI v43, vI v46, vI 0, vR b51, .unset, .unset] [iI 0])) _
      refine XS.ifYes X51.here hx rfl (pc0 := 184) (pc' := 202) rfl (hb hby at_184) rfl ((if0 _ _).trans (flt (by decide : ¬ ((0 : Int32) < (0 : Int32)))).2.2.2) (by decide) (by decide) ?_
      show Steps _ _ _ (T51.setTop (mkF m 202 #[vJ q1, .second, vI p2, vJ q3, .second, vI p4, vR b1, vI fv, vI tv, vI kv, vI v43, vI v46, vI 0, vR b51, .unset, .unset] [])) _
      refine XS.iload X51.here hx rfl (hb hby at_202) rfl ?_
      show Steps _ _ _ (T51.setTop (mkF m 204 #[vJ q1, .second, vI p2, vJ q3, .second, vI p4, vR b1, vI fv, vI tv, vI kv, vI v43, vI v46, vI 0, vR b51, .unset, .unset] [iI 0])) _
      refine XS.iconst X51.here hx rfl (hb hby at_204) ?_
      show Steps _ _ _ (T51.setTop (mkF m 205 #[vJ q1, .second, vI p2, vJ q3, .second, vI p4, vR b1, vI fv, vI tv, vI kv, vI v43, vI v46, vI 0, vR b51, .unset, .unset] [iI 1, iI 0])) _
      refine XS.icmpYes X51.here hx rfl (pc0 := 205) (pc' := 223) rfl (hb hby at_205) rfl (flt (by decide : ¬ ((1 : Int32) < (0 : Int32)))).2.2.2 (by decide) (by decide) ?_
      show Steps _ _ _ (T51.setTop (mkF m 223 #[vJ q1, .second, vI p2, vJ q3, .second, vI p4, vR b1, vI fv, vI tv, vI kv, vI v43, vI v46, vI 0, vR b51, .unset, .unset] [])) _
      refine XS.iload X51.here hx rfl (hb hby at_223) rfl ?_
      show Steps _ _ _ (T51.setTop (mkF m 225 #[vJ q1, .second, vI p2, vJ q3, .second, vI p4, vR b1, vI fv, vI tv, vI kv, vI v43, vI v46, vI 0, vR b51, .unset, .unset] [iI 0])) _
      refine XS.iconst X51.here hx rfl (hb hby at_225) ?_
      show Steps _ _ _ (T51.setTop (mkF m 226 #[vJ q1, .second, vI p2, vJ q3, .second, vI p4, vR b1, vI fv, vI tv, vI kv, vI v43, vI v46, vI 0, vR b51, .unset, .unset] [iI 2, iI 0])) _
      refine XS.icmpYes X51.here hx rfl (pc0 := 226) (pc' := 244) rfl (hb hby at_226) rfl (flt (by decide : ¬ ((2 : Int32) < (0 : Int32)))).2.2.2 (by decide) (by decide) ?_
      show Steps _ _ _ (T51.setTop (mkF m 244 #[vJ q1, .second, vI p2, vJ q3, .second, vI p4, vR b1, vI fv, vI tv, vI kv, vI v43, vI v46, vI 0, vR b51, .unset, .unset] [])) _
      refine st52 _ ?_
      show Steps _ _ _ (T52.setTop (mkF m 247 #[vJ q1, .second, vI p2, vJ q3, .second, vI p4, vR b1, vI fv, vI tv, vI kv, vI v43, vI v46, vI 0, vR b51, .unset, .unset] [iR b52])) _
      refine XS.dup X52.here hx rfl (hb hby at_247) rfl rfl ?_
      show Steps _ _ _ (T52.setTop (mkF m 248 #[vJ q1, .second, vI p2, vJ q3, .second, vI p4, vR b1, vI fv, vI tv, vI kv, vI v43, vI v46, vI 0, vR b51, .unset, .unset] [iR b52, iR b52])) _
      refine st54.trans ?_
      show Steps _ _ _ (T54.setTop (mkF m 251 #[vJ q1, .second, vI p2, vJ q3, .second, vI p4, vR b1, vI fv, vI tv, vI kv, vI v43, vI v46, vI 0, vR b51, .unset, .unset] [iR b52])) _
      refine XS.astore X54.here hx rfl (hb hby at_251) rfl rfl (l' := #[vJ q1, .second, vI p2, vJ q3, .second, vI p4, vR b1, vI fv, vI tv, vI kv, vI v43, vI v46, vI 0, vR b51, vR b52, .unset]) rfl ?_
      show Steps _ _ _ (T54.setTop (mkF m 253 #[vJ q1, .second, vI p2, vJ q3, .second, vI p4, vR b1, vI fv, vI tv, vI kv, vI v43, vI v46, vI 0, vR b51, vR b52, .unset] [])) _
      refine XS.aload X54.here hx rfl (hb hby at_253) rfl rfl ?_
      show Steps _ _ _ (T54.setTop (mkF m 255 #[vJ q1, .second, vI p2, vJ q3, .second, vI p4, vR b1, vI fv, vI tv, vI kv, vI v43, vI v46, vI 0, vR b51, vR b52, .unset] [iR b52])) _
      refine XS.aload X54.here hx rfl (hb hby at_255) rfl rfl ?_
      show Steps _ _ _ (T54.setTop (mkF m 257 #[vJ q1, .second, vI p2, vJ q3, .second, vI p4, vR b1, vI fv, vI tv, vI kv, vI v43, vI v46, vI 0, vR b51, vR b52, .unset] [iR b1, iR b52])) _
      refine XS.iload X54.here hx rfl (hb hby at_257) rfl ?_
      show Steps _ _ _ (T54.setTop (mkF m 259 #[vJ q1, .second, vI p2, vJ q3, .second, vI p4, vR b1, vI fv, vI tv, vI kv, vI v43, vI v46, vI 0, vR b51, vR b52, .unset] [iI fv, iR b1, iR b52])) _
      refine XS.iload X54.here hx rfl (hb hby at_259) rfl ?_
      show Steps _ _ _ (T54.setTop (mkF m 261 #[vJ q1, .second, vI p2, vJ q3, .second, vI p4, vR b1, vI fv, vI tv, vI kv, vI v43, vI v46, vI 0, vR b51, vR b52, .unset] [iI tv, iI fv, iR b1, iR b52])) _
      refine st57.trans ?_
      show Steps _ _ _ (T57.setTop (mkF m 264 #[vJ q1, .second, vI p2, vJ q3, .second, vI p4, vR b1, vI fv, vI tv, vI kv, vI v43, vI v46, vI 0, vR b51, vR b52, .unset] [])) _
      refine XS.iload X57.here hx rfl (hb hby at_264) rfl ?_
      show Steps _ _ _ (T57.setTop (mkF m 266 #[vJ q1, .second, vI p2, vJ q3, .second, vI p4, vR b1, vI fv, vI tv, vI kv, vI v43, vI v46, vI 0, vR b51, vR b52, .unset] [iI v46])) _
      refine XS.iload X57.here hx rfl (hb hby at_266) rfl ?_
      show Steps _ _ _ (T57.setTop (mkF m 268 #[vJ q1, .second, vI p2, vJ q3, .second, vI p4, vR b1, vI fv, vI tv, vI kv, vI v43, vI v46, vI 0, vR b51, vR b52, .unset] [iI v43, iI v46])) _
      refine XS.isub X57.here hx rfl (hb hby at_268) rfl ?_
      show Steps _ _ _ (T57.setTop (mkF m 269 #[vJ q1, .second, vI p2, vJ q3, .second, vI p4, vR b1, vI fv, vI tv, vI kv, vI v43, vI v46, vI 0, vR b51, vR b52, .unset] [iI (v46 - v43)])) _
      refine XS.iload X57.here hx rfl (hb hby at_269) rfl ?_
      show Steps _ _ _ (T57.setTop (mkF m 271 #[vJ q1, .second, vI p2, vJ q3, .second, vI p4, vR b1, vI fv, vI tv, vI kv, vI v43, vI v46, vI 0, vR b51, vR b52, .unset] [iI 0, iI (v46 - v43)])) _
      refine st60 _ ?_
      show Steps _ _ _ (T60.setTop (mkF m 337 #[vJ q1, .second, vI p2, vJ q3, .second, vI p4, vR b1, vI fv, vI tv, vI kv, vI v43, vI v46, vI 0, vR b51, vR b52, .unset] [iI v59])) _
      refine XS.istore X60.here hx rfl (hb hby at_337) rfl (l' := #[vJ q1, .second, vI p2, vJ q3, .second, vI p4, vR b1, vI fv, vI tv, vI kv, vI v43, vI v46, vI 0, vR b51, vR b52, vI v59]) rfl ?_
      show Steps _ _ _ (T60.setTop (mkF m 339 #[vJ q1, .second, vI p2, vJ q3, .second, vI p4, vR b1, vI fv, vI tv, vI kv, vI v43, vI v46, vI 0, vR b51, vR b52, vI v59] [])) _
      refine XS.aload X60.here hx rfl (hb hby at_339) rfl rfl ?_
      show Steps _ _ _ (T60.setTop (mkF m 341 #[vJ q1, .second, vI p2, vJ q3, .second, vI p4, vR b1, vI fv, vI tv, vI kv, vI v43, vI v46, vI 0, vR b51, vR b52, vI v59] [iR b52])) _
      refine XS.iload X60.here hx rfl (hb hby at_341) rfl ?_
      show Steps _ _ _ (T60.setTop (mkF m 343 #[vJ q1, .second, vI p2, vJ q3, .second, vI p4, vR b1, vI fv, vI tv, vI kv, vI v43, vI v46, vI 0, vR b51, vR b52, vI v59] [iI kv, iR b52])) _
      refine XS.aload X60.here hx rfl (hb hby at_343) rfl rfl ?_
      show Steps _ _ _ (T60.setTop (mkF m 345 #[vJ q1, .second, vI p2, vJ q3, .second, vI p4, vR b1, vI fv, vI tv, vI kv, vI v43, vI v46, vI 0, vR b51, vR b52, vI v59] [iR b51, iI kv, iR b52])) _
      refine st62.trans ?_
      show Steps _ _ _ (T62.setTop (mkF m 348 #[vJ q1, .second, vI p2, vJ q3, .second, vI p4, vR b1, vI fv, vI tv, vI kv, vI v43, vI v46, vI 0, vR b51, vR b52, vI v59] [iI (own_is_0 kv fv tv (nar .byte nb0) (nar .byte nb1) (nar .byte nb2) (nar .byte v17) (nar .byte nb4) (nar .byte nb5) (nar .byte nb6) )])) _
      refine XS.iload X62.here hx rfl (hb hby at_348) rfl ?_
      show Steps _ _ _ (T62.setTop (mkF m 350 #[vJ q1, .second, vI p2, vJ q3, .second, vI p4, vR b1, vI fv, vI tv, vI kv, vI v43, vI v46, vI 0, vR b51, vR b52, vI v59] [iI v59, iI (own_is_0 kv fv tv (nar .byte nb0) (nar .byte nb1) (nar .byte nb2) (nar .byte v17) (nar .byte nb4) (nar .byte nb5) (nar .byte nb6) )])) _
      refine XS.icmpNo X62.here hx rfl (hb hby at_350) rfl (teq hh65).2 ?_
      show Steps _ _ _ (T62.setTop (mkF m 353 #[vJ q1, .second, vI p2, vJ q3, .second, vI p4, vR b1, vI fv, vI tv, vI kv, vI v43, vI v46, vI 0, vR b51, vR b52, vI v59] [])) _
      refine XS.iconst X62.here hx rfl (hb hby at_353) ?_
      show Steps _ _ _ (T62.setTop (mkF m 354 #[vJ q1, .second, vI p2, vJ q3, .second, vI p4, vR b1, vI fv, vI tv, vI kv, vI v43, vI v46, vI 0, vR b51, vR b52, vI v59] [iI 1])) _
      refine XS.goto X62.here hx rfl (pc0 := 354) (pc' := 358) rfl (hb hby at_354) (by decide) (by decide) ?_
      show Steps _ _ _ (T62.setTop (mkF m 358 #[vJ q1, .second, vI p2, vJ q3, .second, vI p4, vR b1, vI fv, vI tv, vI kv, vI v43, vI v46, vI 0, vR b51, vR b52, vI v59] [iI 1])) _
      exact retN X62 hx (t := .boolean) Bd.returns (by simp) (hb hby at_358) hr
    · show Q0 Z q1 p2 q3 p4 h0 n0 _ T62.heap _
      rw [e62]
      exact ⟨rfl, N57⟩
  · obtain ⟨T66, h66, k66, X66, e66, E66, A66, st66⟩ := newP X47 hx hZ (hw _ (List.mem_of_getElem? (i := 0) rfl)) e47 (g := (mkF m 160 #[vJ q1, .second, vI p2, vJ q3, .second, vI p4, vR b1, vI fv, vI tv, vI kv, vI v43, vI v46, vI 1, .unset, .unset, .unset] [iI 1])) rfl (hb hby at_160) rfl (by decide) (cap := 1) (by decide) (by decide) (by decide) (by decide)
    obtain ⟨b66, g66⟩ : ∃ z, z = h37.size := ⟨_, rfl⟩
    rw [← g66] at A66 st66
    have ne_b1_b66 : b1 ≠ b66 := Nat.ne_of_lt (Nat.lt_of_lt_of_le V37.lt (Nat.le_of_eq g66.symm))
    have sz_b66 : h0.size ≤ b66 := Nat.le_trans K37.1 (Nat.le_of_eq g66.symm)
    have g_b66 : n0 ≤ b66 := Nat.le_trans Z0 sz_b66
    have K66 : Keep h0 h66 [] := K37.ext E66
    have V66 : Arv Z h66 b66 k66 .byte (1 : Int32) [(.int (0 : Int32))] (.int (0 : Int32)) := (Arv.new A66 (by decide)).pad (pad_rep [] (.int (0 : Int32)) 1)
    have fk68 := (V37.ext E66)
    obtain ⟨_, _, ⟨T67, L67, k67, n67⟩, -, X67, ⟨Lc67, hQ67, l67, y67, z67⟩, st67⟩ := Jvm.LawKit.callS X66 hx (y := (⟨"com/example/tidemine/tidemine/TokensIsPinLaw", "pick", "([BIJII)B"⟩ : MethodName)) hown (mvT hZ (hw _ (List.mem_of_getElem? (i := 41) rfl))) (mvT hZ (hw _ (List.mem_of_getElem? (i := 42) rfl))) (mvT hZ (hw _ (List.mem_of_getElem? (i := 3) rfl))) (mvT hZ (hw _ (List.mem_of_getElem? (i := 43) rfl))) (by decide) (backOf (W := 2) (rm8_0 l Z a0 hw [] b1 v43 q3 p4 k1 (nar .byte nb0) (nar .byte nb1) (nar .byte nb2) (nar .byte v17) (nar .byte nb4) (nar .byte nb5) (nar .byte nb6) h66 fk68 q10) hZ (hw _ (List.mem_of_getElem? (i := 43) rfl)) (hw _ (List.mem_of_getElem? (i := 3) rfl)) (by decide) (by decide)) (g := (mkF m 198 #[vJ q1, .second, vI p2, vJ q3, .second, vI p4, vR b1, vI fv, vI tv, vI kv, vI v43, vI v46, vI 1, vR b66, .unset, .unset] [iI p4, iI 0, iJ q3, iI v43, iR b1, iI 0, iR b66])) rfl (by rw [hml]; rfl) (argsL := [(.ref b1), (.int v43), (.long q3), (.int (0 : Int32)), (.int p4)]) (rest := [(.int (0 : Int32)), (.ref b66)]) (lenOf pd_6 rfl) rfl (by show 2 * 0 + _ ≤ _; exact Nat.le_of_eq rfl) (hb hby at_198) (fun _ _ => ⟨rfl, e66, (by decide : 2 + 0 ≤ _), (by decide : 8 + 0 ≤ _)⟩)
    dsimp only [Pt.U, Pt.locs, Pt.cells, Pt.slots] at X67 l67 y67 z67 st67 hQ67
    subst l67 y67 z67
    obtain ⟨rfl, rfl, e67⟩ := hQ67
    try rw [List.append_nil] at X67
    obtain ⟨nbt0, hnbt0⟩ : ∃ z : Int32, z = (own_pk_0 v43 q3 p4 (nar .byte nb0) (nar .byte nb1) (nar .byte nb2) (nar .byte v17) (nar .byte nb4) (nar .byte nb5) (nar .byte nb6)) := ⟨_, rfl⟩
    obtain ⟨cl70, Ar70, q70, S70, M70, H70, G70⟩ := id V66
    have hin71 : ¬ ((0 : Int32) < 0 ∨ cl70.slots.size ≤ ((0 : Int32)).toNatClampNeg) := inb_of S70 ⟨by decide, by decide⟩
    obtain ⟨T72, h72, X72, e72, W72, st72⟩ := stB X67 hx hZ e67 Ar70 (j := (0 : Int32)) hin71 (g := (mkF m 201 #[vJ q1, .second, vI p2, vJ q3, .second, vI p4, vR b1, vI fv, vI tv, vI kv, vI v43, vI v46, vI 1, vR b66, .unset, .unset] [iI nbt0, iI 0, iR b66])) rfl rfl (hb hby at_201)
    have V72 : Arv Z h72 b66 k66 .byte (1 : Int32) [(.int (nar .byte nbt0))] (.int (0 : Int32)) := Arv.set Ar70 q70 S70 M70 H70 G70 (fits_nar_byte _) W72 0 rfl (Nat.le_of_ble_eq_true rfl)
    have K72 : Keep h0 h72 [] := K66.wr W72 (Or.inr sz_b66)
    have N72 := Fr.snoc X72 N37 g_b66
    obtain ⟨T73, h73, X73, e73, E73, A73, D73, -, st73⟩ := newO X72 hx hZ hown (hw _ (List.mem_of_getElem? (i := 9) rfl)) (hw _ (List.mem_of_getElem? (i := 10) rfl)) (hw _ (List.mem_of_getElem? (i := 11) rfl)) e72 (g := (mkF m 244 #[vJ q1, .second, vI p2, vJ q3, .second, vI p4, vR b1, vI fv, vI tv, vI kv, vI v43, vI v46, vI 1, vR b66, .unset, .unset] [])) rfl (hb hby at_244) (by decide) (by decide)
    obtain ⟨b73, g73⟩ : ∃ z, z = h72.size := ⟨_, rfl⟩
    rw [← g73] at A73 D73 st73
    have fk74 := (fk68.other W72 ne_b1_b66)
    have ne_b1_b73 : b1 ≠ b73 := Nat.ne_of_lt (Nat.lt_of_lt_of_le fk74.lt (Nat.le_of_eq g73.symm))
    have ne_b66_b73 : b66 ≠ b73 := Nat.ne_of_lt (Nat.lt_of_lt_of_le V72.lt (Nat.le_of_eq g73.symm))
    have sz_b73 : h0.size ≤ b73 := Nat.le_trans K72.1 (Nat.le_of_eq g73.symm)
    have g_b73 : n0 ≤ b73 := Nat.le_trans Z0 sz_b73
    have K73 : Keep h0 h73 [] := K72.ext E73
    have F_starts_b73 : Fld Z h73 b73 "com/example/tidemine/tidemine/TextFormat$Tokens" "starts" "[I" .null := D73 (Or.inl (hw _ (List.mem_of_getElem? (i := 20) rfl))) (ty := (.array .int)) (by decide)
    have F_ends_b73 : Fld Z h73 b73 "com/example/tidemine/tidemine/TextFormat$Tokens" "ends" "[I" .null := D73 (Or.inl (hw _ (List.mem_of_getElem? (i := 22) rfl))) (ty := (.array .int)) (by decide)
    have F_line_b73 : Fld Z h73 b73 "com/example/tidemine/tidemine/TextFormat$Tokens" "line" "[B" .null := D73 (Or.inl (hw _ (List.mem_of_getElem? (i := 29) rfl))) (ty := (.array .byte)) (by decide)
    have F_count_b73 : Fld Z h73 b73 "com/example/tidemine/tidemine/TextFormat$Tokens" "count" "I" (.int (0 : Int32)) := D73 (Or.inl (hw _ (List.mem_of_getElem? (i := 31) rfl))) (ty := .int) (by decide)
    obtain ⟨_, _, ⟨T75, L75, k75, n75⟩, -, X75, ⟨Lc75, hQ75, l75, y75, z75⟩, st75⟩ := X73.specialBack hx (y := (⟨"com/example/tidemine/tidemine/TextFormat$Tokens", "<init>", "()V"⟩ : MethodName)) rfl hown (mvT hZ (hw _ (List.mem_of_getElem? (i := 12) rfl))) (mvT hZ (hw _ (List.mem_of_getElem? (i := 13) rfl))) (mvT hZ (hw _ (List.mem_of_getElem? (i := 14) rfl))) (by decide) (backOf (W := 1) (rm3 l Z a0 hw [] b73 h73 n0 (Nat.le_trans Z0 K73.1) A73 g_b73 F_line_b73 F_starts_b73 F_ends_b73 F_count_b73) hZ (hw _ (List.mem_of_getElem? (i := 14) rfl)) (hw _ (List.mem_of_getElem? (i := 11) rfl)) (by decide) (by decide)) (g := (mkF m 248 #[vJ q1, .second, vI p2, vJ q3, .second, vI p4, vR b1, vI fv, vI tv, vI kv, vI v43, vI v46, vI 1, vR b66, .unset, .unset] [iR b73, iR b73])) rfl (by rw [hml]; rfl) (Steps.refl _) (a := b73) (argsL := []) (rest := [(.ref b73)]) (lenOf pd_3 rfl) rfl (by show 2 * 0 + _ ≤ _; exact Nat.le_of_eq rfl) (hb hby at_248) (fun _ _ => ⟨rfl, e73, (by decide : 3 + 2 ≤ _), (by decide : 12 + 32 ≤ _)⟩)
    dsimp only [Pt.U, Pt.locs, Pt.cells, Pt.slots] at X75 l75 y75 z75 st75 hQ75
    subst l75 y75 z75
    obtain ⟨s1, s2, kt1, kt2, rfl, N75q, K75q, E75q, Fl75q, Fs75q, Fe75q, Fc75q, V175q, V275q, z_s1, z_s2, ne_s1_s2⟩ := hQ75
    have fk76 := (fk74.ext E73)
    have fk77 := (V72.ext E73)
    have ne_b1_s1 : b1 ≠ s1 := Nat.ne_of_lt (Nat.lt_of_lt_of_le fk76.lt z_s1)
    have ne_b66_s1 : b66 ≠ s1 := Nat.ne_of_lt (Nat.lt_of_lt_of_le fk77.lt z_s1)
    have ne_b73_s1 : b73 ≠ s1 := Nat.ne_of_lt (Nat.lt_of_lt_of_le A73.lt z_s1)
    have sz_s1 : h0.size ≤ s1 := Nat.le_trans K73.1 z_s1
    have g_s1 : n0 ≤ s1 := Nat.le_trans Z0 sz_s1
    have ne_b1_s2 : b1 ≠ s2 := Nat.ne_of_lt (Nat.lt_of_lt_of_le fk76.lt z_s2)
    have ne_b66_s2 : b66 ≠ s2 := Nat.ne_of_lt (Nat.lt_of_lt_of_le fk77.lt z_s2)
    have ne_b73_s2 : b73 ≠ s2 := Nat.ne_of_lt (Nat.lt_of_lt_of_le A73.lt z_s2)
    have sz_s2 : h0.size ≤ s2 := Nat.le_trans K73.1 z_s2
    have g_s2 : n0 ≤ s2 := Nat.le_trans Z0 sz_s2
    have N75 := Fr.app N72 N75q
    have K75 : Keep h0 T75.heap [] := Keep.trans K73 K75q (allS (Or.inr sz_b73) all0)
    have fk79 := (fk76.keep K75q (ninS ne_b1_b73 nin0))
    obtain ⟨cq78, kq78, q78a, q78b, q78c⟩ := isOf hZ rfl E75q
    obtain ⟨_, _, ⟨T78, L78, k78, n78⟩, -, X78, ⟨Lc78, hQ78, l78, y78, z78⟩, st78⟩ := X75.virtualBack hx (y := (⟨"com/example/tidemine/tidemine/TextFormat$Tokens", "split", "([BII)V"⟩ : MethodName)) (z := (⟨"com/example/tidemine/tidemine/TextFormat$Tokens", "split", "([BII)V"⟩ : MethodName)) hown (mvT hZ (hw _ (List.mem_of_getElem? (i := 23) rfl))) (mvT hZ (hw _ (List.mem_of_getElem? (i := 24) rfl))) (notFace_of_selects (args := #[]) (mvT hZ (hw _ (List.mem_of_getElem? (i := 26) rfl)))) (mvT hZ (hw _ (List.mem_of_getElem? (i := 26) rfl))) (mvT hZ (hw _ (List.mem_of_getElem? (i := 25) rfl))) (by decide) (backOf (W := 0) (rm5 l Z a0 hw [] b73 b1 fv tv s1 s2 kt1 kt2 k1 (nar .byte nb0) (nar .byte nb1) (nar .byte nb2) (nar .byte v17) (nar .byte nb4) (nar .byte nb5) (nar .byte nb6) T75.heap n0 (Nat.le_trans Z0 K75.1) E75q g_b73 g_s1 g_s2 Fl75q Fs75q Fe75q Fc75q V175q V275q fk79 (Ne.symm ne_b1_b73) ne_b73_s1 ne_b73_s2 ne_b1_s1 ne_b1_s2 ne_s1_s2 hx0 hx1 hx2 hx3 hx4 hx5 hx6 qfv qtv) hZ (hw _ (List.mem_of_getElem? (i := 27) rfl)) (hw _ (List.mem_of_getElem? (i := 11) rfl)) (by decide) (by decide)) q78a q78c (g := (mkF m 261 #[vJ q1, .second, vI p2, vJ q3, .second, vI p4, vR b1, vI fv, vI tv, vI kv, vI v43, vI v46, vI 1, vR b66, vR b73, .unset] [iI tv, iI fv, iR b1, iR b73])) rfl (by rw [hml]; rfl) (Steps.refl _) (argsL := [(.ref b1), (.int fv), (.int tv)]) (rest := []) (lenOf pd_4 rfl) rfl (by show 2 * 0 + _ ≤ _; exact Nat.le_of_eq rfl) (hb hby at_261) (fun _ _ => ⟨rfl, rfl, (by decide : 5 + 0 ≤ _), (by decide : 44 + 0 ≤ _)⟩)
    dsimp only [Pt.U, Pt.locs, Pt.cells, Pt.slots] at X78 l78 y78 z78 st78 hQ78
    subst l78 y78 z78
    obtain ⟨rfl, N78q, K78q, E78q, Fl78q, Fs78q, Fe78q, V178q, V278q⟩ := hQ78
    have N78 := Fr.app N75 N78q
    have K78 : Keep h0 T78.heap [] := Keep.trans K75 K78q (allS (Or.inr sz_b73) (allS (Or.inr sz_s1) (allS (Or.inr sz_s2) all0)))
    obtain ⟨v80, hv80⟩ : ∃ z : Int32, z = (if (v46 - v43) = (1 : Int32) then (if (nar .byte nbt0) = (own_at (nar .byte nb0) (nar .byte nb1) (nar .byte nb2) (nar .byte v17) (nar .byte nb4) (nar .byte nb5) (nar .byte nb6) v43) then (1 : Int32) else (0 : Int32)) else (0 : Int32)) := ⟨_, rfl⟩
    obtain ⟨T81, X81, e81, st81⟩ : own_Mid X78 T78.heap (mkF m 271 #[vJ q1, .second, vI p2, vJ q3, .second, vI p4, vR b1, vI fv, vI tv, vI kv, vI v43, vI v46, vI 1, vR b66, vR b73, .unset] [iI 1, iI (v46 - v43)]) (mkF m 337 #[vJ q1, .second, vI p2, vJ q3, .second, vI p4, vR b1, vI fv, vI tv, vI kv, vI v43, vI v46, vI 1, vR b66, vR b73, .unset] [iI v80]) := by
      by_cases hc82 : (v46 - v43) = (1 : Int32)
      · have fk83 := ((fk77.keep K75q (ninS ne_b66_b73 nin0)).keep K78q (ninS ne_b66_b73 (ninS ne_b66_s1 (ninS ne_b66_s2 nin0))))
        obtain ⟨cl84, Ar84, q84, S84, M84, H84, G84⟩ := id fk83
        have hin85 : ¬ ((0 : Int32) < 0 ∨ cl84.slots.size ≤ ((0 : Int32)).toNatClampNeg) := inb_of S84 ⟨by decide, by decide⟩
        have hat86 : cl84.slots[((0 : Int32)).toNatClampNeg]? = some (.int (nar .byte nbt0)) := Has.at H84 hin85 rfl
        have fk87 := (fk79.keep K78q (ninS ne_b1_b73 (ninS ne_b1_s1 (ninS ne_b1_s2 nin0))))
        obtain ⟨cl88, Ar88, q88, S88, M88, H88, G88⟩ := id fk87
        have hin89 : ¬ (v43 < 0 ∨ cl88.slots.size ≤ (v43).toNatClampNeg) := inb_of S88 (own_in7 q10)
        have hat90 : cl88.slots[(v43).toNatClampNeg]? = some (.int (own_at (nar .byte nb0) (nar .byte nb1) (nar .byte nb2) (nar .byte v17) (nar .byte nb4) (nar .byte nb5) (nar .byte nb6) v43)) := Has.at H88 hin89 (own_atL (own_in7 q10))
        have pre92 : ∀ t, Steps p.tables e below (T78.setTop (mkF m 289 #[vJ q1, .second, vI p2, vJ q3, .second, vI p4, vR b1, vI fv, vI tv, vI kv, vI v43, vI v46, vI 1, vR b66, vR b73, .unset] [iI (own_at (nar .byte nb0) (nar .byte nb1) (nar .byte nb2) (nar .byte v17) (nar .byte nb4) (nar .byte nb5) (nar .byte nb6) v43), iI (nar .byte nbt0)])) t → Steps p.tables e below (T78.setTop (mkF m 271 #[vJ q1, .second, vI p2, vJ q3, .second, vI p4, vR b1, vI fv, vI tv, vI kv, vI v43, vI v46, vI 1, vR b66, vR b73, .unset] [iI 1, iI (v46 - v43)])) t := by
          intro t kt
          show Steps _ _ _ (T78.setTop (mkF m 271 #[vJ q1, .second, vI p2, vJ q3, .second, vI p4, vR b1, vI fv, vI tv, vI kv, vI v43, vI v46, vI 1, vR b66, vR b73, .unset] [iI 1, iI (v46 - v43)])) _
          refine XS.icmpNo X78.here hx rfl (hb hby at_271) rfl (teq hc82).2 ?_
          show Steps _ _ _ (T78.setTop (mkF m 274 #[vJ q1, .second, vI p2, vJ q3, .second, vI p4, vR b1, vI fv, vI tv, vI kv, vI v43, vI v46, vI 1, vR b66, vR b73, .unset] [])) _
          refine XS.iload X78.here hx rfl (hb hby at_274) rfl ?_
          show Steps _ _ _ (T78.setTop (mkF m 276 #[vJ q1, .second, vI p2, vJ q3, .second, vI p4, vR b1, vI fv, vI tv, vI kv, vI v43, vI v46, vI 1, vR b66, vR b73, .unset] [iI 1])) _
          refine XS.iconst X78.here hx rfl (hb hby at_276) ?_
          show Steps _ _ _ (T78.setTop (mkF m 277 #[vJ q1, .second, vI p2, vJ q3, .second, vI p4, vR b1, vI fv, vI tv, vI kv, vI v43, vI v46, vI 1, vR b66, vR b73, .unset] [iI 1, iI 1])) _
          refine XS.icmpNo X78.here hx rfl (hb hby at_277) rfl (flt (by decide : ¬ ((1 : Int32) < (1 : Int32)))).1 ?_
          show Steps _ _ _ (T78.setTop (mkF m 280 #[vJ q1, .second, vI p2, vJ q3, .second, vI p4, vR b1, vI fv, vI tv, vI kv, vI v43, vI v46, vI 1, vR b66, vR b73, .unset] [])) _
          refine XS.aload X78.here hx rfl (hb hby at_280) rfl rfl ?_
          show Steps _ _ _ (T78.setTop (mkF m 282 #[vJ q1, .second, vI p2, vJ q3, .second, vI p4, vR b1, vI fv, vI tv, vI kv, vI v43, vI v46, vI 1, vR b66, vR b73, .unset] [iR b66])) _
          refine XS.iconst X78.here hx rfl (hb hby at_282) ?_
          show Steps _ _ _ (T78.setTop (mkF m 283 #[vJ q1, .second, vI p2, vJ q3, .second, vI p4, vR b1, vI fv, vI tv, vI kv, vI v43, vI v46, vI 1, vR b66, vR b73, .unset] [iI 0, iR b66])) _
          refine X78.baloadBytes hx (j := (0 : Int32)) (v := (.int (nar .byte nbt0))) Ar84.1 (State.isArrayOf_alike hZ.alike Ar84.2.1) Ar84.2.2 hin85 hat86 (g := (mkF m 283 #[vJ q1, .second, vI p2, vJ q3, .second, vI p4, vR b1, vI fv, vI tv, vI kv, vI v43, vI v46, vI 1, vR b66, vR b73, .unset] [iI 0, iR b66])) rfl rfl (hb hby at_283) _ ?_
          show Steps _ _ _ (T78.setTop (mkF m 284 #[vJ q1, .second, vI p2, vJ q3, .second, vI p4, vR b1, vI fv, vI tv, vI kv, vI v43, vI v46, vI 1, vR b66, vR b73, .unset] [iI (nar .byte nbt0)])) _
          refine XS.aload X78.here hx rfl (hb hby at_284) rfl rfl ?_
          show Steps _ _ _ (T78.setTop (mkF m 286 #[vJ q1, .second, vI p2, vJ q3, .second, vI p4, vR b1, vI fv, vI tv, vI kv, vI v43, vI v46, vI 1, vR b66, vR b73, .unset] [iR b1, iI (nar .byte nbt0)])) _
          refine XS.iload X78.here hx rfl (hb hby at_286) rfl ?_
          show Steps _ _ _ (T78.setTop (mkF m 288 #[vJ q1, .second, vI p2, vJ q3, .second, vI p4, vR b1, vI fv, vI tv, vI kv, vI v43, vI v46, vI 1, vR b66, vR b73, .unset] [iI v43, iR b1, iI (nar .byte nbt0)])) _
          refine X78.baloadBytes hx (j := v43) (v := (.int (own_at (nar .byte nb0) (nar .byte nb1) (nar .byte nb2) (nar .byte v17) (nar .byte nb4) (nar .byte nb5) (nar .byte nb6) v43))) Ar88.1 (State.isArrayOf_alike hZ.alike Ar88.2.1) Ar88.2.2 hin89 hat90 (g := (mkF m 288 #[vJ q1, .second, vI p2, vJ q3, .second, vI p4, vR b1, vI fv, vI tv, vI kv, vI v43, vI v46, vI 1, vR b66, vR b73, .unset] [iI v43, iR b1, iI (nar .byte nbt0)])) rfl rfl (hb hby at_288) _ ?_
          exact kt
        by_cases hc91 : (nar .byte nbt0) = (own_at (nar .byte nb0) (nar .byte nb1) (nar .byte nb2) (nar .byte v17) (nar .byte nb4) (nar .byte nb5) (nar .byte nb6) v43)
        · refine ⟨T78, X78, rfl, fun t kt => ?_⟩
          subst hv80
          simp only [if_pos hc82, if_pos hc91] at kt
          refine pre92 t ?_
          show Steps _ _ _ (T78.setTop (mkF m 289 #[vJ q1, .second, vI p2, vJ q3, .second, vI p4, vR b1, vI fv, vI tv, vI kv, vI v43, vI v46, vI 1, vR b66, vR b73, .unset] [iI (own_at (nar .byte nb0) (nar .byte nb1) (nar .byte nb2) (nar .byte v17) (nar .byte nb4) (nar .byte nb5) (nar .byte nb6) v43), iI (nar .byte nbt0)])) _
          refine XS.icmpNo X78.here hx rfl (hb hby at_289) rfl (teq hc91).2 ?_
          show Steps _ _ _ (T78.setTop (mkF m 292 #[vJ q1, .second, vI p2, vJ q3, .second, vI p4, vR b1, vI fv, vI tv, vI kv, vI v43, vI v46, vI 1, vR b66, vR b73, .unset] [])) _
          refine XS.iload X78.here hx rfl (hb hby at_292) rfl ?_
          show Steps _ _ _ (T78.setTop (mkF m 294 #[vJ q1, .second, vI p2, vJ q3, .second, vI p4, vR b1, vI fv, vI tv, vI kv, vI v43, vI v46, vI 1, vR b66, vR b73, .unset] [iI 1])) _
          refine XS.iconst X78.here hx rfl (hb hby at_294) ?_
          show Steps _ _ _ (T78.setTop (mkF m 295 #[vJ q1, .second, vI p2, vJ q3, .second, vI p4, vR b1, vI fv, vI tv, vI kv, vI v43, vI v46, vI 1, vR b66, vR b73, .unset] [iI 2, iI 1])) _
          refine XS.icmpYes X78.here hx rfl (pc0 := 295) (pc' := 312) rfl (hb hby at_295) rfl (tlt (by decide : (1 : Int32) < (2 : Int32))).1 (by decide) (by decide) ?_
          show Steps _ _ _ (T78.setTop (mkF m 312 #[vJ q1, .second, vI p2, vJ q3, .second, vI p4, vR b1, vI fv, vI tv, vI kv, vI v43, vI v46, vI 1, vR b66, vR b73, .unset] [])) _
          refine XS.iload X78.here hx rfl (hb hby at_312) rfl ?_
          show Steps _ _ _ (T78.setTop (mkF m 314 #[vJ q1, .second, vI p2, vJ q3, .second, vI p4, vR b1, vI fv, vI tv, vI kv, vI v43, vI v46, vI 1, vR b66, vR b73, .unset] [iI 1])) _
          refine XS.iconst X78.here hx rfl (hb hby at_314) ?_
          show Steps _ _ _ (T78.setTop (mkF m 315 #[vJ q1, .second, vI p2, vJ q3, .second, vI p4, vR b1, vI fv, vI tv, vI kv, vI v43, vI v46, vI 1, vR b66, vR b73, .unset] [iI 3, iI 1])) _
          refine XS.icmpYes X78.here hx rfl (pc0 := 315) (pc' := 332) rfl (hb hby at_315) rfl (tlt (by decide : (1 : Int32) < (3 : Int32))).1 (by decide) (by decide) ?_
          show Steps _ _ _ (T78.setTop (mkF m 332 #[vJ q1, .second, vI p2, vJ q3, .second, vI p4, vR b1, vI fv, vI tv, vI kv, vI v43, vI v46, vI 1, vR b66, vR b73, .unset] [])) _
          refine XS.iconst X78.here hx rfl (hb hby at_332) ?_
          show Steps _ _ _ (T78.setTop (mkF m 333 #[vJ q1, .second, vI p2, vJ q3, .second, vI p4, vR b1, vI fv, vI tv, vI kv, vI v43, vI v46, vI 1, vR b66, vR b73, .unset] [iI 1])) _
          refine XS.goto X78.here hx rfl (pc0 := 333) (pc' := 337) rfl (hb hby at_333) (by decide) (by decide) ?_
          exact kt
        · refine ⟨T78, X78, rfl, fun t kt => ?_⟩
          subst hv80
          simp only [if_pos hc82, if_neg hc91] at kt
          refine pre92 t ?_
          show Steps _ _ _ (T78.setTop (mkF m 289 #[vJ q1, .second, vI p2, vJ q3, .second, vI p4, vR b1, vI fv, vI tv, vI kv, vI v43, vI v46, vI 1, vR b66, vR b73, .unset] [iI (own_at (nar .byte nb0) (nar .byte nb1) (nar .byte nb2) (nar .byte v17) (nar .byte nb4) (nar .byte nb5) (nar .byte nb6) v43), iI (nar .byte nbt0)])) _
          refine XS.icmpYes X78.here hx rfl (pc0 := 289) (pc' := 336) rfl (hb hby at_289) rfl (feq hc91).2 (by decide) (by decide) ?_
          show Steps _ _ _ (T78.setTop (mkF m 336 #[vJ q1, .second, vI p2, vJ q3, .second, vI p4, vR b1, vI fv, vI tv, vI kv, vI v43, vI v46, vI 1, vR b66, vR b73, .unset] [])) _
          refine XS.iconst X78.here hx rfl (hb hby at_336) ?_
          exact kt
      · refine ⟨T78, X78, rfl, fun t kt => ?_⟩
        subst hv80
        simp only [if_neg hc82] at kt
        show Steps _ _ _ (T78.setTop (mkF m 271 #[vJ q1, .second, vI p2, vJ q3, .second, vI p4, vR b1, vI fv, vI tv, vI kv, vI v43, vI v46, vI 1, vR b66, vR b73, .unset] [iI 1, iI (v46 - v43)])) _
        refine XS.icmpYes X78.here hx rfl (pc0 := 271) (pc' := 336) rfl (hb hby at_271) rfl (feq hc82).2 (by decide) (by decide) ?_
        show Steps _ _ _ (T78.setTop (mkF m 336 #[vJ q1, .second, vI p2, vJ q3, .second, vI p4, vR b1, vI fv, vI tv, vI kv, vI v43, vI v46, vI 1, vR b66, vR b73, .unset] [])) _
        refine XS.iconst X78.here hx rfl (hb hby at_336) ?_
        exact kt
    have fk94 := (fk79.keep K78q (ninS ne_b1_b73 (ninS ne_b1_s1 (ninS ne_b1_s2 nin0))))
    have fk95 := ((fk77.keep K75q (ninS ne_b66_b73 nin0)).keep K78q (ninS ne_b66_b73 (ninS ne_b66_s1 (ninS ne_b66_s2 nin0))))
    obtain ⟨cq93, kq93, q93a, q93b, q93c⟩ := isOf hZ e81 E78q
    obtain ⟨_, _, ⟨T93, L93, k93, n93⟩, -, X93, ⟨Lc93, hQ93, l93, y93, z93⟩, st93⟩ := X81.virtualBack hx (y := (⟨"com/example/tidemine/tidemine/TextFormat$Tokens", "is", "(I[B)Z"⟩ : MethodName)) (z := (⟨"com/example/tidemine/tidemine/TextFormat$Tokens", "is", "(I[B)Z"⟩ : MethodName)) hown (mvT hZ (hw _ (List.mem_of_getElem? (i := 36) rfl))) (mvT hZ (hw _ (List.mem_of_getElem? (i := 37) rfl))) (notFace_of_selects (args := #[]) (mvT hZ (hw _ (List.mem_of_getElem? (i := 39) rfl)))) (mvT hZ (hw _ (List.mem_of_getElem? (i := 39) rfl))) (mvT hZ (hw _ (List.mem_of_getElem? (i := 38) rfl))) (by decide) (backOf (W := 0) (rm7_1 l Z a0 hw [] b73 kv b66 s1 s2 b1 kt1 kt2 k1 k66 fv tv (nar .byte nb0) (nar .byte nb1) (nar .byte nb2) (nar .byte v17) (nar .byte nb4) (nar .byte nb5) (nar .byte nb6) (nar .byte nbt0) T78.heap Fl78q Fs78q Fe78q V178q V278q fk94 fk95 qkv qfv qtv) hZ (hw _ (List.mem_of_getElem? (i := 40) rfl)) (hw _ (List.mem_of_getElem? (i := 11) rfl)) (by decide) (by decide)) q93a q93c (g := (mkF m 345 #[vJ q1, .second, vI p2, vJ q3, .second, vI p4, vR b1, vI fv, vI tv, vI kv, vI v43, vI v46, vI 1, vR b66, vR b73, vI v80] [iR b66, iI kv, iR b73])) rfl (by rw [hml]; rfl) (Steps.refl _) (argsL := [(.int kv), (.ref b66)]) (rest := []) (lenOf pd_5 rfl) rfl (by show 2 * 0 + _ ≤ _; exact Nat.le_of_eq rfl) (hb hby at_345) (fun _ _ => ⟨rfl, e81, (by decide : 5 + 0 ≤ _), (by decide : 44 + 0 ≤ _)⟩)
    dsimp only [Pt.U, Pt.locs, Pt.cells, Pt.slots] at X93 l93 y93 z93 st93 hQ93
    subst l93 y93 z93
    obtain ⟨rfl, rfl, e93⟩ := hQ93
    try rw [List.append_nil] at X93
    have hh96 : (own_is_1 kv fv tv (nar .byte nb0) (nar .byte nb1) (nar .byte nb2) (nar .byte v17) (nar .byte nb4) (nar .byte nb5) (nar .byte nb6) (nar .byte nbt0)) = v80 := (by rw [hv80]; exact own_fin1 _ _ _ _ _ _ _ _ _ _ _ _ _ hv43 hv46)
    obtain ⟨fs, hr, hrun, hended, hW, hsame⟩ := X93.leave (v := some (.int (1 : Int32))) (fun h => by rw [Bd.returns] at h; cases h)
    refine ⟨_, _, pre50 _ ?_, hrun, hended, _, _, rfl, ?_, ⟨_, rfl⟩, hW, hsame.mono (by decide) (by decide)⟩
    · show Steps _ _ _ (T47.setTop (mkF m 142 #[vJ q1, .second, vI p2, vJ q3, .second, vI p4, vR b1, vI fv, vI tv, vI kv, vI v43, vI v46, vI 1, .unset, .unset, .unset] [])) _
      refine XS.iload X47.here hx rfl (hb hby at_142) rfl ?_
      show Steps _ _ _ (T47.setTop (mkF m 144 #[vJ q1, .second, vI p2, vJ q3, .second, vI p4, vR b1, vI fv, vI tv, vI kv, vI v43, vI v46, vI 1, .unset, .unset, .unset] [iI 1])) _
      refine XS.ifYes X47.here hx rfl (pc0 := 144) (pc' := 153) rfl (hb hby at_144) rfl ((if0 _ _).trans (feq (by decide : ¬ ((1 : Int32) = (0 : Int32)))).2) (by decide) (by decide) ?_
      show Steps _ _ _ (T47.setTop (mkF m 153 #[vJ q1, .second, vI p2, vJ q3, .second, vI p4, vR b1, vI fv, vI tv, vI kv, vI v43, vI v46, vI 1, .unset, .unset, .unset] [])) _
      refine XS.iload X47.here hx rfl (hb hby at_153) rfl ?_
      show Steps _ _ _ (T47.setTop (mkF m 155 #[vJ q1, .second, vI p2, vJ q3, .second, vI p4, vR b1, vI fv, vI tv, vI kv, vI v43, vI v46, vI 1, .unset, .unset, .unset] [iI 1])) _
      refine XS.iconst X47.here hx rfl (hb hby at_155) ?_
      show Steps _ _ _ (T47.setTop (mkF m 156 #[vJ q1, .second, vI p2, vJ q3, .second, vI p4, vR b1, vI fv, vI tv, vI kv, vI v43, vI v46, vI 1, .unset, .unset, .unset] [iI 1, iI 1])) _
      refine XS.icmpNo X47.here hx rfl (hb hby at_156) rfl (teq (by decide : (1 : Int32) = (1 : Int32))).2 ?_
      show Steps _ _ _ (T47.setTop (mkF m 159 #[vJ q1, .second, vI p2, vJ q3, .second, vI p4, vR b1, vI fv, vI tv, vI kv, vI v43, vI v46, vI 1, .unset, .unset, .unset] [])) _
      refine XS.iconst X47.here hx rfl (hb hby at_159) ?_
      show Steps _ _ _ (T47.setTop (mkF m 160 #[vJ q1, .second, vI p2, vJ q3, .second, vI p4, vR b1, vI fv, vI tv, vI kv, vI v43, vI v46, vI 1, .unset, .unset, .unset] [iI 1])) _
      refine st66 _ ?_
      show Steps _ _ _ (T66.setTop (mkF m 162 #[vJ q1, .second, vI p2, vJ q3, .second, vI p4, vR b1, vI fv, vI tv, vI kv, vI v43, vI v46, vI 1, .unset, .unset, .unset] [iR b66])) _
      refine XS.goto X66.here hx rfl (pc0 := 162) (pc' := 180) rfl (hb hby at_162) (by decide) (by decide) ?_
      show Steps _ _ _ (T66.setTop (mkF m 180 #[vJ q1, .second, vI p2, vJ q3, .second, vI p4, vR b1, vI fv, vI tv, vI kv, vI v43, vI v46, vI 1, .unset, .unset, .unset] [iR b66])) _
      refine XS.astore X66.here hx rfl (hb hby at_180) rfl rfl (l' := #[vJ q1, .second, vI p2, vJ q3, .second, vI p4, vR b1, vI fv, vI tv, vI kv, vI v43, vI v46, vI 1, vR b66, .unset, .unset]) rfl ?_
      show Steps _ _ _ (T66.setTop (mkF m 182 #[vJ q1, .second, vI p2, vJ q3, .second, vI p4, vR b1, vI fv, vI tv, vI kv, vI v43, vI v46, vI 1, vR b66, .unset, .unset] [])) _
      refine XS.iload X66.here hx rfl (hb hby at_182) rfl ?_
      show Steps _ _ _ (T66.setTop (mkF m 184 #[vJ q1, .second, vI p2, vJ q3, .second, vI p4, vR b1, vI fv, vI tv, vI kv, vI v43, vI v46, vI 1, vR b66, .unset, .unset] [iI 1])) _
      refine XS.ifNo X66.here hx rfl (hb hby at_184) rfl ((if0 _ _).trans (tlt (by decide : (0 : Int32) < (1 : Int32))).2.2.2) ?_
      show Steps _ _ _ (T66.setTop (mkF m 187 #[vJ q1, .second, vI p2, vJ q3, .second, vI p4, vR b1, vI fv, vI tv, vI kv, vI v43, vI v46, vI 1, vR b66, .unset, .unset] [])) _
      refine XS.aload X66.here hx rfl (hb hby at_187) rfl rfl ?_
      show Steps _ _ _ (T66.setTop (mkF m 189 #[vJ q1, .second, vI p2, vJ q3, .second, vI p4, vR b1, vI fv, vI tv, vI kv, vI v43, vI v46, vI 1, vR b66, .unset, .unset] [iR b66])) _
      refine XS.iconst X66.here hx rfl (hb hby at_189) ?_
      show Steps _ _ _ (T66.setTop (mkF m 190 #[vJ q1, .second, vI p2, vJ q3, .second, vI p4, vR b1, vI fv, vI tv, vI kv, vI v43, vI v46, vI 1, vR b66, .unset, .unset] [iI 0, iR b66])) _
      refine XS.aload X66.here hx rfl (hb hby at_190) rfl rfl ?_
      show Steps _ _ _ (T66.setTop (mkF m 192 #[vJ q1, .second, vI p2, vJ q3, .second, vI p4, vR b1, vI fv, vI tv, vI kv, vI v43, vI v46, vI 1, vR b66, .unset, .unset] [iR b1, iI 0, iR b66])) _
      refine XS.iload X66.here hx rfl (hb hby at_192) rfl ?_
      show Steps _ _ _ (T66.setTop (mkF m 194 #[vJ q1, .second, vI p2, vJ q3, .second, vI p4, vR b1, vI fv, vI tv, vI kv, vI v43, vI v46, vI 1, vR b66, .unset, .unset] [iI v43, iR b1, iI 0, iR b66])) _
      refine XS.lloadN X66.here hx rfl (hb hby at_194) rfl ?_
      show Steps _ _ _ (T66.setTop (mkF m 195 #[vJ q1, .second, vI p2, vJ q3, .second, vI p4, vR b1, vI fv, vI tv, vI kv, vI v43, vI v46, vI 1, vR b66, .unset, .unset] [iJ q3, iI v43, iR b1, iI 0, iR b66])) _
      refine XS.iconst X66.here hx rfl (hb hby at_195) ?_
      show Steps _ _ _ (T66.setTop (mkF m 196 #[vJ q1, .second, vI p2, vJ q3, .second, vI p4, vR b1, vI fv, vI tv, vI kv, vI v43, vI v46, vI 1, vR b66, .unset, .unset] [iI 0, iJ q3, iI v43, iR b1, iI 0, iR b66])) _
      refine XS.iload X66.here hx rfl (hb hby at_196) rfl ?_
      show Steps _ _ _ (T66.setTop (mkF m 198 #[vJ q1, .second, vI p2, vJ q3, .second, vI p4, vR b1, vI fv, vI tv, vI kv, vI v43, vI v46, vI 1, vR b66, .unset, .unset] [iI p4, iI 0, iJ q3, iI v43, iR b1, iI 0, iR b66])) _
      refine st67 _ ?_
      rw [← hnbt0]
      show Steps _ _ _ (T67.setTop (mkF m 201 #[vJ q1, .second, vI p2, vJ q3, .second, vI p4, vR b1, vI fv, vI tv, vI kv, vI v43, vI v46, vI 1, vR b66, .unset, .unset] [iI nbt0, iI 0, iR b66])) _
      refine st72 _ ?_
      show Steps _ _ _ (T72.setTop (mkF m 202 #[vJ q1, .second, vI p2, vJ q3, .second, vI p4, vR b1, vI fv, vI tv, vI kv, vI v43, vI v46, vI 1, vR b66, .unset, .unset] [])) _
      refine XS.iload X72.here hx rfl (hb hby at_202) rfl ?_
      show Steps _ _ _ (T72.setTop (mkF m 204 #[vJ q1, .second, vI p2, vJ q3, .second, vI p4, vR b1, vI fv, vI tv, vI kv, vI v43, vI v46, vI 1, vR b66, .unset, .unset] [iI 1])) _
      refine XS.iconst X72.here hx rfl (hb hby at_204) ?_
      show Steps _ _ _ (T72.setTop (mkF m 205 #[vJ q1, .second, vI p2, vJ q3, .second, vI p4, vR b1, vI fv, vI tv, vI kv, vI v43, vI v46, vI 1, vR b66, .unset, .unset] [iI 1, iI 1])) _
      refine XS.icmpYes X72.here hx rfl (pc0 := 205) (pc' := 223) rfl (hb hby at_205) rfl (flt (by decide : ¬ ((1 : Int32) < (1 : Int32)))).2.2.2 (by decide) (by decide) ?_
      show Steps _ _ _ (T72.setTop (mkF m 223 #[vJ q1, .second, vI p2, vJ q3, .second, vI p4, vR b1, vI fv, vI tv, vI kv, vI v43, vI v46, vI 1, vR b66, .unset, .unset] [])) _
      refine XS.iload X72.here hx rfl (hb hby at_223) rfl ?_
      show Steps _ _ _ (T72.setTop (mkF m 225 #[vJ q1, .second, vI p2, vJ q3, .second, vI p4, vR b1, vI fv, vI tv, vI kv, vI v43, vI v46, vI 1, vR b66, .unset, .unset] [iI 1])) _
      refine XS.iconst X72.here hx rfl (hb hby at_225) ?_
      show Steps _ _ _ (T72.setTop (mkF m 226 #[vJ q1, .second, vI p2, vJ q3, .second, vI p4, vR b1, vI fv, vI tv, vI kv, vI v43, vI v46, vI 1, vR b66, .unset, .unset] [iI 2, iI 1])) _
      refine XS.icmpYes X72.here hx rfl (pc0 := 226) (pc' := 244) rfl (hb hby at_226) rfl (flt (by decide : ¬ ((2 : Int32) < (1 : Int32)))).2.2.2 (by decide) (by decide) ?_
      show Steps _ _ _ (T72.setTop (mkF m 244 #[vJ q1, .second, vI p2, vJ q3, .second, vI p4, vR b1, vI fv, vI tv, vI kv, vI v43, vI v46, vI 1, vR b66, .unset, .unset] [])) _
      refine st73 _ ?_
      show Steps _ _ _ (T73.setTop (mkF m 247 #[vJ q1, .second, vI p2, vJ q3, .second, vI p4, vR b1, vI fv, vI tv, vI kv, vI v43, vI v46, vI 1, vR b66, .unset, .unset] [iR b73])) _
      refine XS.dup X73.here hx rfl (hb hby at_247) rfl rfl ?_
      show Steps _ _ _ (T73.setTop (mkF m 248 #[vJ q1, .second, vI p2, vJ q3, .second, vI p4, vR b1, vI fv, vI tv, vI kv, vI v43, vI v46, vI 1, vR b66, .unset, .unset] [iR b73, iR b73])) _
      refine st75.trans ?_
      show Steps _ _ _ (T75.setTop (mkF m 251 #[vJ q1, .second, vI p2, vJ q3, .second, vI p4, vR b1, vI fv, vI tv, vI kv, vI v43, vI v46, vI 1, vR b66, .unset, .unset] [iR b73])) _
      refine XS.astore X75.here hx rfl (hb hby at_251) rfl rfl (l' := #[vJ q1, .second, vI p2, vJ q3, .second, vI p4, vR b1, vI fv, vI tv, vI kv, vI v43, vI v46, vI 1, vR b66, vR b73, .unset]) rfl ?_
      show Steps _ _ _ (T75.setTop (mkF m 253 #[vJ q1, .second, vI p2, vJ q3, .second, vI p4, vR b1, vI fv, vI tv, vI kv, vI v43, vI v46, vI 1, vR b66, vR b73, .unset] [])) _
      refine XS.aload X75.here hx rfl (hb hby at_253) rfl rfl ?_
      show Steps _ _ _ (T75.setTop (mkF m 255 #[vJ q1, .second, vI p2, vJ q3, .second, vI p4, vR b1, vI fv, vI tv, vI kv, vI v43, vI v46, vI 1, vR b66, vR b73, .unset] [iR b73])) _
      refine XS.aload X75.here hx rfl (hb hby at_255) rfl rfl ?_
      show Steps _ _ _ (T75.setTop (mkF m 257 #[vJ q1, .second, vI p2, vJ q3, .second, vI p4, vR b1, vI fv, vI tv, vI kv, vI v43, vI v46, vI 1, vR b66, vR b73, .unset] [iR b1, iR b73])) _
      refine XS.iload X75.here hx rfl (hb hby at_257) rfl ?_
      show Steps _ _ _ (T75.setTop (mkF m 259 #[vJ q1, .second, vI p2, vJ q3, .second, vI p4, vR b1, vI fv, vI tv, vI kv, vI v43, vI v46, vI 1, vR b66, vR b73, .unset] [iI fv, iR b1, iR b73])) _
      refine XS.iload X75.here hx rfl (hb hby at_259) rfl ?_
      show Steps _ _ _ (T75.setTop (mkF m 261 #[vJ q1, .second, vI p2, vJ q3, .second, vI p4, vR b1, vI fv, vI tv, vI kv, vI v43, vI v46, vI 1, vR b66, vR b73, .unset] [iI tv, iI fv, iR b1, iR b73])) _
      refine st78.trans ?_
      show Steps _ _ _ (T78.setTop (mkF m 264 #[vJ q1, .second, vI p2, vJ q3, .second, vI p4, vR b1, vI fv, vI tv, vI kv, vI v43, vI v46, vI 1, vR b66, vR b73, .unset] [])) _
      refine XS.iload X78.here hx rfl (hb hby at_264) rfl ?_
      show Steps _ _ _ (T78.setTop (mkF m 266 #[vJ q1, .second, vI p2, vJ q3, .second, vI p4, vR b1, vI fv, vI tv, vI kv, vI v43, vI v46, vI 1, vR b66, vR b73, .unset] [iI v46])) _
      refine XS.iload X78.here hx rfl (hb hby at_266) rfl ?_
      show Steps _ _ _ (T78.setTop (mkF m 268 #[vJ q1, .second, vI p2, vJ q3, .second, vI p4, vR b1, vI fv, vI tv, vI kv, vI v43, vI v46, vI 1, vR b66, vR b73, .unset] [iI v43, iI v46])) _
      refine XS.isub X78.here hx rfl (hb hby at_268) rfl ?_
      show Steps _ _ _ (T78.setTop (mkF m 269 #[vJ q1, .second, vI p2, vJ q3, .second, vI p4, vR b1, vI fv, vI tv, vI kv, vI v43, vI v46, vI 1, vR b66, vR b73, .unset] [iI (v46 - v43)])) _
      refine XS.iload X78.here hx rfl (hb hby at_269) rfl ?_
      show Steps _ _ _ (T78.setTop (mkF m 271 #[vJ q1, .second, vI p2, vJ q3, .second, vI p4, vR b1, vI fv, vI tv, vI kv, vI v43, vI v46, vI 1, vR b66, vR b73, .unset] [iI 1, iI (v46 - v43)])) _
      refine st81 _ ?_
      show Steps _ _ _ (T81.setTop (mkF m 337 #[vJ q1, .second, vI p2, vJ q3, .second, vI p4, vR b1, vI fv, vI tv, vI kv, vI v43, vI v46, vI 1, vR b66, vR b73, .unset] [iI v80])) _
      refine XS.istore X81.here hx rfl (hb hby at_337) rfl (l' := #[vJ q1, .second, vI p2, vJ q3, .second, vI p4, vR b1, vI fv, vI tv, vI kv, vI v43, vI v46, vI 1, vR b66, vR b73, vI v80]) rfl ?_
      show Steps _ _ _ (T81.setTop (mkF m 339 #[vJ q1, .second, vI p2, vJ q3, .second, vI p4, vR b1, vI fv, vI tv, vI kv, vI v43, vI v46, vI 1, vR b66, vR b73, vI v80] [])) _
      refine XS.aload X81.here hx rfl (hb hby at_339) rfl rfl ?_
      show Steps _ _ _ (T81.setTop (mkF m 341 #[vJ q1, .second, vI p2, vJ q3, .second, vI p4, vR b1, vI fv, vI tv, vI kv, vI v43, vI v46, vI 1, vR b66, vR b73, vI v80] [iR b73])) _
      refine XS.iload X81.here hx rfl (hb hby at_341) rfl ?_
      show Steps _ _ _ (T81.setTop (mkF m 343 #[vJ q1, .second, vI p2, vJ q3, .second, vI p4, vR b1, vI fv, vI tv, vI kv, vI v43, vI v46, vI 1, vR b66, vR b73, vI v80] [iI kv, iR b73])) _
      refine XS.aload X81.here hx rfl (hb hby at_343) rfl rfl ?_
      show Steps _ _ _ (T81.setTop (mkF m 345 #[vJ q1, .second, vI p2, vJ q3, .second, vI p4, vR b1, vI fv, vI tv, vI kv, vI v43, vI v46, vI 1, vR b66, vR b73, vI v80] [iR b66, iI kv, iR b73])) _
      refine st93.trans ?_
      show Steps _ _ _ (T93.setTop (mkF m 348 #[vJ q1, .second, vI p2, vJ q3, .second, vI p4, vR b1, vI fv, vI tv, vI kv, vI v43, vI v46, vI 1, vR b66, vR b73, vI v80] [iI (own_is_1 kv fv tv (nar .byte nb0) (nar .byte nb1) (nar .byte nb2) (nar .byte v17) (nar .byte nb4) (nar .byte nb5) (nar .byte nb6) (nar .byte nbt0))])) _
      refine XS.iload X93.here hx rfl (hb hby at_348) rfl ?_
      show Steps _ _ _ (T93.setTop (mkF m 350 #[vJ q1, .second, vI p2, vJ q3, .second, vI p4, vR b1, vI fv, vI tv, vI kv, vI v43, vI v46, vI 1, vR b66, vR b73, vI v80] [iI v80, iI (own_is_1 kv fv tv (nar .byte nb0) (nar .byte nb1) (nar .byte nb2) (nar .byte v17) (nar .byte nb4) (nar .byte nb5) (nar .byte nb6) (nar .byte nbt0))])) _
      refine XS.icmpNo X93.here hx rfl (hb hby at_350) rfl (teq hh96).2 ?_
      show Steps _ _ _ (T93.setTop (mkF m 353 #[vJ q1, .second, vI p2, vJ q3, .second, vI p4, vR b1, vI fv, vI tv, vI kv, vI v43, vI v46, vI 1, vR b66, vR b73, vI v80] [])) _
      refine XS.iconst X93.here hx rfl (hb hby at_353) ?_
      show Steps _ _ _ (T93.setTop (mkF m 354 #[vJ q1, .second, vI p2, vJ q3, .second, vI p4, vR b1, vI fv, vI tv, vI kv, vI v43, vI v46, vI 1, vR b66, vR b73, vI v80] [iI 1])) _
      refine XS.goto X93.here hx rfl (pc0 := 354) (pc' := 358) rfl (hb hby at_354) (by decide) (by decide) ?_
      show Steps _ _ _ (T93.setTop (mkF m 358 #[vJ q1, .second, vI p2, vJ q3, .second, vI p4, vR b1, vI fv, vI tv, vI kv, vI v43, vI v46, vI 1, vR b66, vR b73, vI v80] [iI 1])) _
      exact retN X93 hx (t := .boolean) Bd.returns (by simp) (hb hby at_358) hr
    · show Q0 Z q1 p2 q3 p4 h0 n0 _ T93.heap _
      rw [e93]
      exact ⟨rfl, N78⟩
  · obtain ⟨T97, h97, k97, X97, e97, E97, A97, st97⟩ := newP X47 hx hZ (hw _ (List.mem_of_getElem? (i := 0) rfl)) e47 (g := (mkF m 172 #[vJ q1, .second, vI p2, vJ q3, .second, vI p4, vR b1, vI fv, vI tv, vI kv, vI v43, vI v46, vI 2, .unset, .unset, .unset] [iI 2])) rfl (hb hby at_172) rfl (by decide) (cap := 2) (by decide) (by decide) (by decide) (by decide)
    obtain ⟨b97, g97⟩ : ∃ z, z = h37.size := ⟨_, rfl⟩
    rw [← g97] at A97 st97
    have ne_b1_b97 : b1 ≠ b97 := Nat.ne_of_lt (Nat.lt_of_lt_of_le V37.lt (Nat.le_of_eq g97.symm))
    have sz_b97 : h0.size ≤ b97 := Nat.le_trans K37.1 (Nat.le_of_eq g97.symm)
    have g_b97 : n0 ≤ b97 := Nat.le_trans Z0 sz_b97
    have K97 : Keep h0 h97 [] := K37.ext E97
    have V97 : Arv Z h97 b97 k97 .byte (2 : Int32) [(.int (0 : Int32)), (.int (0 : Int32))] (.int (0 : Int32)) := (Arv.new A97 (by decide)).pad (pad_rep [] (.int (0 : Int32)) 2)
    have fk99 := (V37.ext E97)
    obtain ⟨_, _, ⟨T98, L98, k98, n98⟩, -, X98, ⟨Lc98, hQ98, l98, y98, z98⟩, st98⟩ := Jvm.LawKit.callS X97 hx (y := (⟨"com/example/tidemine/tidemine/TokensIsPinLaw", "pick", "([BIJII)B"⟩ : MethodName)) hown (mvT hZ (hw _ (List.mem_of_getElem? (i := 41) rfl))) (mvT hZ (hw _ (List.mem_of_getElem? (i := 42) rfl))) (mvT hZ (hw _ (List.mem_of_getElem? (i := 3) rfl))) (mvT hZ (hw _ (List.mem_of_getElem? (i := 43) rfl))) (by decide) (backOf (W := 2) (rm8_0 l Z a0 hw [] b1 v43 q3 p4 k1 (nar .byte nb0) (nar .byte nb1) (nar .byte nb2) (nar .byte v17) (nar .byte nb4) (nar .byte nb5) (nar .byte nb6) h97 fk99 q10) hZ (hw _ (List.mem_of_getElem? (i := 43) rfl)) (hw _ (List.mem_of_getElem? (i := 3) rfl)) (by decide) (by decide)) (g := (mkF m 198 #[vJ q1, .second, vI p2, vJ q3, .second, vI p4, vR b1, vI fv, vI tv, vI kv, vI v43, vI v46, vI 2, vR b97, .unset, .unset] [iI p4, iI 0, iJ q3, iI v43, iR b1, iI 0, iR b97])) rfl (by rw [hml]; rfl) (argsL := [(.ref b1), (.int v43), (.long q3), (.int (0 : Int32)), (.int p4)]) (rest := [(.int (0 : Int32)), (.ref b97)]) (lenOf pd_6 rfl) rfl (by show 2 * 0 + _ ≤ _; exact Nat.le_of_eq rfl) (hb hby at_198) (fun _ _ => ⟨rfl, e97, (by decide : 2 + 0 ≤ _), (by decide : 9 + 0 ≤ _)⟩)
    dsimp only [Pt.U, Pt.locs, Pt.cells, Pt.slots] at X98 l98 y98 z98 st98 hQ98
    subst l98 y98 z98
    obtain ⟨rfl, rfl, e98⟩ := hQ98
    try rw [List.append_nil] at X98
    obtain ⟨nbt0, hnbt0⟩ : ∃ z : Int32, z = (own_pk_0 v43 q3 p4 (nar .byte nb0) (nar .byte nb1) (nar .byte nb2) (nar .byte v17) (nar .byte nb4) (nar .byte nb5) (nar .byte nb6)) := ⟨_, rfl⟩
    obtain ⟨cl101, Ar101, q101, S101, M101, H101, G101⟩ := id V97
    have hin102 : ¬ ((0 : Int32) < 0 ∨ cl101.slots.size ≤ ((0 : Int32)).toNatClampNeg) := inb_of S101 ⟨by decide, by decide⟩
    obtain ⟨T103, h103, X103, e103, W103, st103⟩ := stB X98 hx hZ e98 Ar101 (j := (0 : Int32)) hin102 (g := (mkF m 201 #[vJ q1, .second, vI p2, vJ q3, .second, vI p4, vR b1, vI fv, vI tv, vI kv, vI v43, vI v46, vI 2, vR b97, .unset, .unset] [iI nbt0, iI 0, iR b97])) rfl rfl (hb hby at_201)
    have V103 : Arv Z h103 b97 k97 .byte (2 : Int32) [(.int (nar .byte nbt0)), (.int (0 : Int32))] (.int (0 : Int32)) := Arv.set Ar101 q101 S101 M101 H101 G101 (fits_nar_byte _) W103 0 rfl (Nat.le_of_ble_eq_true rfl)
    have K103 : Keep h0 h103 [] := K97.wr W103 (Or.inr sz_b97)
    have N103 := Fr.snoc X103 N37 g_b97
    have fk105 := (fk99.other W103 ne_b1_b97)
    obtain ⟨_, _, ⟨T104, L104, k104, n104⟩, -, X104, ⟨Lc104, hQ104, l104, y104, z104⟩, st104⟩ := Jvm.LawKit.callS X103 hx (y := (⟨"com/example/tidemine/tidemine/TokensIsPinLaw", "pick", "([BIJII)B"⟩ : MethodName)) hown (mvT hZ (hw _ (List.mem_of_getElem? (i := 41) rfl))) (mvT hZ (hw _ (List.mem_of_getElem? (i := 42) rfl))) (mvT hZ (hw _ (List.mem_of_getElem? (i := 3) rfl))) (mvT hZ (hw _ (List.mem_of_getElem? (i := 43) rfl))) (by decide) (backOf (W := 2) (rm8_1 l Z a0 hw [] b1 v43 q3 p4 k1 (nar .byte nb0) (nar .byte nb1) (nar .byte nb2) (nar .byte v17) (nar .byte nb4) (nar .byte nb5) (nar .byte nb6) h103 fk105 q10) hZ (hw _ (List.mem_of_getElem? (i := 43) rfl)) (hw _ (List.mem_of_getElem? (i := 3) rfl)) (by decide) (by decide)) (g := (mkF m 219 #[vJ q1, .second, vI p2, vJ q3, .second, vI p4, vR b1, vI fv, vI tv, vI kv, vI v43, vI v46, vI 2, vR b97, .unset, .unset] [iI p4, iI 1, iJ q3, iI v43, iR b1, iI 1, iR b97])) rfl (by rw [hml]; rfl) (argsL := [(.ref b1), (.int v43), (.long q3), (.int (1 : Int32)), (.int p4)]) (rest := [(.int (1 : Int32)), (.ref b97)]) (lenOf pd_6 rfl) rfl (by show 2 * 0 + _ ≤ _; exact Nat.le_of_eq rfl) (hb hby at_219) (fun _ _ => ⟨rfl, e103, (by decide : 2 + 0 ≤ _), (by decide : 9 + 0 ≤ _)⟩)
    dsimp only [Pt.U, Pt.locs, Pt.cells, Pt.slots] at X104 l104 y104 z104 st104 hQ104
    subst l104 y104 z104
    obtain ⟨rfl, rfl, e104⟩ := hQ104
    try rw [List.append_nil] at X104
    obtain ⟨nbt1, hnbt1⟩ : ∃ z : Int32, z = (own_pk_1 v43 q3 p4 (nar .byte nb0) (nar .byte nb1) (nar .byte nb2) (nar .byte v17) (nar .byte nb4) (nar .byte nb5) (nar .byte nb6)) := ⟨_, rfl⟩
    obtain ⟨cl107, Ar107, q107, S107, M107, H107, G107⟩ := id V103
    have hin108 : ¬ ((1 : Int32) < 0 ∨ cl107.slots.size ≤ ((1 : Int32)).toNatClampNeg) := inb_of S107 ⟨by decide, by decide⟩
    obtain ⟨T109, h109, X109, e109, W109, st109⟩ := stB X104 hx hZ e104 Ar107 (j := (1 : Int32)) hin108 (g := (mkF m 222 #[vJ q1, .second, vI p2, vJ q3, .second, vI p4, vR b1, vI fv, vI tv, vI kv, vI v43, vI v46, vI 2, vR b97, .unset, .unset] [iI nbt1, iI 1, iR b97])) rfl rfl (hb hby at_222)
    have V109 : Arv Z h109 b97 k97 .byte (2 : Int32) [(.int (nar .byte nbt0)), (.int (nar .byte nbt1))] (.int (0 : Int32)) := Arv.set Ar107 q107 S107 M107 H107 G107 (fits_nar_byte _) W109 1 rfl (Nat.le_of_ble_eq_true rfl)
    have K109 : Keep h0 h109 [] := K103.wr W109 (Or.inr sz_b97)
    have N109 := Fr.snoc X109 N103 g_b97
    obtain ⟨T110, h110, X110, e110, E110, A110, D110, -, st110⟩ := newO X109 hx hZ hown (hw _ (List.mem_of_getElem? (i := 9) rfl)) (hw _ (List.mem_of_getElem? (i := 10) rfl)) (hw _ (List.mem_of_getElem? (i := 11) rfl)) e109 (g := (mkF m 244 #[vJ q1, .second, vI p2, vJ q3, .second, vI p4, vR b1, vI fv, vI tv, vI kv, vI v43, vI v46, vI 2, vR b97, .unset, .unset] [])) rfl (hb hby at_244) (by decide) (by decide)
    obtain ⟨b110, g110⟩ : ∃ z, z = h109.size := ⟨_, rfl⟩
    rw [← g110] at A110 D110 st110
    have fk111 := (fk105.other W109 ne_b1_b97)
    have ne_b1_b110 : b1 ≠ b110 := Nat.ne_of_lt (Nat.lt_of_lt_of_le fk111.lt (Nat.le_of_eq g110.symm))
    have ne_b97_b110 : b97 ≠ b110 := Nat.ne_of_lt (Nat.lt_of_lt_of_le V109.lt (Nat.le_of_eq g110.symm))
    have sz_b110 : h0.size ≤ b110 := Nat.le_trans K109.1 (Nat.le_of_eq g110.symm)
    have g_b110 : n0 ≤ b110 := Nat.le_trans Z0 sz_b110
    have K110 : Keep h0 h110 [] := K109.ext E110
    have F_starts_b110 : Fld Z h110 b110 "com/example/tidemine/tidemine/TextFormat$Tokens" "starts" "[I" .null := D110 (Or.inl (hw _ (List.mem_of_getElem? (i := 20) rfl))) (ty := (.array .int)) (by decide)
    have F_ends_b110 : Fld Z h110 b110 "com/example/tidemine/tidemine/TextFormat$Tokens" "ends" "[I" .null := D110 (Or.inl (hw _ (List.mem_of_getElem? (i := 22) rfl))) (ty := (.array .int)) (by decide)
    have F_line_b110 : Fld Z h110 b110 "com/example/tidemine/tidemine/TextFormat$Tokens" "line" "[B" .null := D110 (Or.inl (hw _ (List.mem_of_getElem? (i := 29) rfl))) (ty := (.array .byte)) (by decide)
    have F_count_b110 : Fld Z h110 b110 "com/example/tidemine/tidemine/TextFormat$Tokens" "count" "I" (.int (0 : Int32)) := D110 (Or.inl (hw _ (List.mem_of_getElem? (i := 31) rfl))) (ty := .int) (by decide)
    obtain ⟨_, _, ⟨T112, L112, k112, n112⟩, -, X112, ⟨Lc112, hQ112, l112, y112, z112⟩, st112⟩ := X110.specialBack hx (y := (⟨"com/example/tidemine/tidemine/TextFormat$Tokens", "<init>", "()V"⟩ : MethodName)) rfl hown (mvT hZ (hw _ (List.mem_of_getElem? (i := 12) rfl))) (mvT hZ (hw _ (List.mem_of_getElem? (i := 13) rfl))) (mvT hZ (hw _ (List.mem_of_getElem? (i := 14) rfl))) (by decide) (backOf (W := 1) (rm3 l Z a0 hw [] b110 h110 n0 (Nat.le_trans Z0 K110.1) A110 g_b110 F_line_b110 F_starts_b110 F_ends_b110 F_count_b110) hZ (hw _ (List.mem_of_getElem? (i := 14) rfl)) (hw _ (List.mem_of_getElem? (i := 11) rfl)) (by decide) (by decide)) (g := (mkF m 248 #[vJ q1, .second, vI p2, vJ q3, .second, vI p4, vR b1, vI fv, vI tv, vI kv, vI v43, vI v46, vI 2, vR b97, .unset, .unset] [iR b110, iR b110])) rfl (by rw [hml]; rfl) (Steps.refl _) (a := b110) (argsL := []) (rest := [(.ref b110)]) (lenOf pd_3 rfl) rfl (by show 2 * 0 + _ ≤ _; exact Nat.le_of_eq rfl) (hb hby at_248) (fun _ _ => ⟨rfl, e110, (by decide : 3 + 2 ≤ _), (by decide : 13 + 32 ≤ _)⟩)
    dsimp only [Pt.U, Pt.locs, Pt.cells, Pt.slots] at X112 l112 y112 z112 st112 hQ112
    subst l112 y112 z112
    obtain ⟨s1, s2, kt1, kt2, rfl, N112q, K112q, E112q, Fl112q, Fs112q, Fe112q, Fc112q, V1112q, V2112q, z_s1, z_s2, ne_s1_s2⟩ := hQ112
    have fk113 := (fk111.ext E110)
    have fk114 := (V109.ext E110)
    have ne_b1_s1 : b1 ≠ s1 := Nat.ne_of_lt (Nat.lt_of_lt_of_le fk113.lt z_s1)
    have ne_b97_s1 : b97 ≠ s1 := Nat.ne_of_lt (Nat.lt_of_lt_of_le fk114.lt z_s1)
    have ne_b110_s1 : b110 ≠ s1 := Nat.ne_of_lt (Nat.lt_of_lt_of_le A110.lt z_s1)
    have sz_s1 : h0.size ≤ s1 := Nat.le_trans K110.1 z_s1
    have g_s1 : n0 ≤ s1 := Nat.le_trans Z0 sz_s1
    have ne_b1_s2 : b1 ≠ s2 := Nat.ne_of_lt (Nat.lt_of_lt_of_le fk113.lt z_s2)
    have ne_b97_s2 : b97 ≠ s2 := Nat.ne_of_lt (Nat.lt_of_lt_of_le fk114.lt z_s2)
    have ne_b110_s2 : b110 ≠ s2 := Nat.ne_of_lt (Nat.lt_of_lt_of_le A110.lt z_s2)
    have sz_s2 : h0.size ≤ s2 := Nat.le_trans K110.1 z_s2
    have g_s2 : n0 ≤ s2 := Nat.le_trans Z0 sz_s2
    have N112 := Fr.app N109 N112q
    have K112 : Keep h0 T112.heap [] := Keep.trans K110 K112q (allS (Or.inr sz_b110) all0)
    have fk116 := (fk113.keep K112q (ninS ne_b1_b110 nin0))
    obtain ⟨cq115, kq115, q115a, q115b, q115c⟩ := isOf hZ rfl E112q
    obtain ⟨_, _, ⟨T115, L115, k115, n115⟩, -, X115, ⟨Lc115, hQ115, l115, y115, z115⟩, st115⟩ := X112.virtualBack hx (y := (⟨"com/example/tidemine/tidemine/TextFormat$Tokens", "split", "([BII)V"⟩ : MethodName)) (z := (⟨"com/example/tidemine/tidemine/TextFormat$Tokens", "split", "([BII)V"⟩ : MethodName)) hown (mvT hZ (hw _ (List.mem_of_getElem? (i := 23) rfl))) (mvT hZ (hw _ (List.mem_of_getElem? (i := 24) rfl))) (notFace_of_selects (args := #[]) (mvT hZ (hw _ (List.mem_of_getElem? (i := 26) rfl)))) (mvT hZ (hw _ (List.mem_of_getElem? (i := 26) rfl))) (mvT hZ (hw _ (List.mem_of_getElem? (i := 25) rfl))) (by decide) (backOf (W := 0) (rm5 l Z a0 hw [] b110 b1 fv tv s1 s2 kt1 kt2 k1 (nar .byte nb0) (nar .byte nb1) (nar .byte nb2) (nar .byte v17) (nar .byte nb4) (nar .byte nb5) (nar .byte nb6) T112.heap n0 (Nat.le_trans Z0 K112.1) E112q g_b110 g_s1 g_s2 Fl112q Fs112q Fe112q Fc112q V1112q V2112q fk116 (Ne.symm ne_b1_b110) ne_b110_s1 ne_b110_s2 ne_b1_s1 ne_b1_s2 ne_s1_s2 hx0 hx1 hx2 hx3 hx4 hx5 hx6 qfv qtv) hZ (hw _ (List.mem_of_getElem? (i := 27) rfl)) (hw _ (List.mem_of_getElem? (i := 11) rfl)) (by decide) (by decide)) q115a q115c (g := (mkF m 261 #[vJ q1, .second, vI p2, vJ q3, .second, vI p4, vR b1, vI fv, vI tv, vI kv, vI v43, vI v46, vI 2, vR b97, vR b110, .unset] [iI tv, iI fv, iR b1, iR b110])) rfl (by rw [hml]; rfl) (Steps.refl _) (argsL := [(.ref b1), (.int fv), (.int tv)]) (rest := []) (lenOf pd_4 rfl) rfl (by show 2 * 0 + _ ≤ _; exact Nat.le_of_eq rfl) (hb hby at_261) (fun _ _ => ⟨rfl, rfl, (by decide : 5 + 0 ≤ _), (by decide : 45 + 0 ≤ _)⟩)
    dsimp only [Pt.U, Pt.locs, Pt.cells, Pt.slots] at X115 l115 y115 z115 st115 hQ115
    subst l115 y115 z115
    obtain ⟨rfl, N115q, K115q, E115q, Fl115q, Fs115q, Fe115q, V1115q, V2115q⟩ := hQ115
    have N115 := Fr.app N112 N115q
    have K115 : Keep h0 T115.heap [] := Keep.trans K112 K115q (allS (Or.inr sz_b110) (allS (Or.inr sz_s1) (allS (Or.inr sz_s2) all0)))
    obtain ⟨v117, hv117⟩ : ∃ z : Int32, z = (if (v46 - v43) = (2 : Int32) then (if (nar .byte nbt0) = (own_at (nar .byte nb0) (nar .byte nb1) (nar .byte nb2) (nar .byte v17) (nar .byte nb4) (nar .byte nb5) (nar .byte nb6) v43) then (if (nar .byte nbt1) = (own_at (nar .byte nb0) (nar .byte nb1) (nar .byte nb2) (nar .byte v17) (nar .byte nb4) (nar .byte nb5) (nar .byte nb6) (v43 + (1 : Int32))) then (1 : Int32) else (0 : Int32)) else (0 : Int32)) else (0 : Int32)) := ⟨_, rfl⟩
    obtain ⟨T118, X118, e118, st118⟩ : own_Mid X115 T115.heap (mkF m 271 #[vJ q1, .second, vI p2, vJ q3, .second, vI p4, vR b1, vI fv, vI tv, vI kv, vI v43, vI v46, vI 2, vR b97, vR b110, .unset] [iI 2, iI (v46 - v43)]) (mkF m 337 #[vJ q1, .second, vI p2, vJ q3, .second, vI p4, vR b1, vI fv, vI tv, vI kv, vI v43, vI v46, vI 2, vR b97, vR b110, .unset] [iI v117]) := by
      by_cases hc119 : (v46 - v43) = (2 : Int32)
      · have fk120 := ((fk114.keep K112q (ninS ne_b97_b110 nin0)).keep K115q (ninS ne_b97_b110 (ninS ne_b97_s1 (ninS ne_b97_s2 nin0))))
        obtain ⟨cl121, Ar121, q121, S121, M121, H121, G121⟩ := id fk120
        have hin122 : ¬ ((0 : Int32) < 0 ∨ cl121.slots.size ≤ ((0 : Int32)).toNatClampNeg) := inb_of S121 ⟨by decide, by decide⟩
        have hat123 : cl121.slots[((0 : Int32)).toNatClampNeg]? = some (.int (nar .byte nbt0)) := Has.at H121 hin122 rfl
        have fk124 := (fk116.keep K115q (ninS ne_b1_b110 (ninS ne_b1_s1 (ninS ne_b1_s2 nin0))))
        obtain ⟨cl125, Ar125, q125, S125, M125, H125, G125⟩ := id fk124
        have hin126 : ¬ (v43 < 0 ∨ cl125.slots.size ≤ (v43).toNatClampNeg) := inb_of S125 (own_in7 q10)
        have hat127 : cl125.slots[(v43).toNatClampNeg]? = some (.int (own_at (nar .byte nb0) (nar .byte nb1) (nar .byte nb2) (nar .byte v17) (nar .byte nb4) (nar .byte nb5) (nar .byte nb6) v43)) := Has.at H125 hin126 (own_atL (own_in7 q10))
        have pre129 : ∀ t, Steps p.tables e below (T115.setTop (mkF m 289 #[vJ q1, .second, vI p2, vJ q3, .second, vI p4, vR b1, vI fv, vI tv, vI kv, vI v43, vI v46, vI 2, vR b97, vR b110, .unset] [iI (own_at (nar .byte nb0) (nar .byte nb1) (nar .byte nb2) (nar .byte v17) (nar .byte nb4) (nar .byte nb5) (nar .byte nb6) v43), iI (nar .byte nbt0)])) t → Steps p.tables e below (T115.setTop (mkF m 271 #[vJ q1, .second, vI p2, vJ q3, .second, vI p4, vR b1, vI fv, vI tv, vI kv, vI v43, vI v46, vI 2, vR b97, vR b110, .unset] [iI 2, iI (v46 - v43)])) t := by
          intro t kt
          show Steps _ _ _ (T115.setTop (mkF m 271 #[vJ q1, .second, vI p2, vJ q3, .second, vI p4, vR b1, vI fv, vI tv, vI kv, vI v43, vI v46, vI 2, vR b97, vR b110, .unset] [iI 2, iI (v46 - v43)])) _
          refine XS.icmpNo X115.here hx rfl (hb hby at_271) rfl (teq hc119).2 ?_
          show Steps _ _ _ (T115.setTop (mkF m 274 #[vJ q1, .second, vI p2, vJ q3, .second, vI p4, vR b1, vI fv, vI tv, vI kv, vI v43, vI v46, vI 2, vR b97, vR b110, .unset] [])) _
          refine XS.iload X115.here hx rfl (hb hby at_274) rfl ?_
          show Steps _ _ _ (T115.setTop (mkF m 276 #[vJ q1, .second, vI p2, vJ q3, .second, vI p4, vR b1, vI fv, vI tv, vI kv, vI v43, vI v46, vI 2, vR b97, vR b110, .unset] [iI 2])) _
          refine XS.iconst X115.here hx rfl (hb hby at_276) ?_
          show Steps _ _ _ (T115.setTop (mkF m 277 #[vJ q1, .second, vI p2, vJ q3, .second, vI p4, vR b1, vI fv, vI tv, vI kv, vI v43, vI v46, vI 2, vR b97, vR b110, .unset] [iI 1, iI 2])) _
          refine XS.icmpNo X115.here hx rfl (hb hby at_277) rfl (flt (by decide : ¬ ((2 : Int32) < (1 : Int32)))).1 ?_
          show Steps _ _ _ (T115.setTop (mkF m 280 #[vJ q1, .second, vI p2, vJ q3, .second, vI p4, vR b1, vI fv, vI tv, vI kv, vI v43, vI v46, vI 2, vR b97, vR b110, .unset] [])) _
          refine XS.aload X115.here hx rfl (hb hby at_280) rfl rfl ?_
          show Steps _ _ _ (T115.setTop (mkF m 282 #[vJ q1, .second, vI p2, vJ q3, .second, vI p4, vR b1, vI fv, vI tv, vI kv, vI v43, vI v46, vI 2, vR b97, vR b110, .unset] [iR b97])) _
          refine XS.iconst X115.here hx rfl (hb hby at_282) ?_
          show Steps _ _ _ (T115.setTop (mkF m 283 #[vJ q1, .second, vI p2, vJ q3, .second, vI p4, vR b1, vI fv, vI tv, vI kv, vI v43, vI v46, vI 2, vR b97, vR b110, .unset] [iI 0, iR b97])) _
          refine X115.baloadBytes hx (j := (0 : Int32)) (v := (.int (nar .byte nbt0))) Ar121.1 (State.isArrayOf_alike hZ.alike Ar121.2.1) Ar121.2.2 hin122 hat123 (g := (mkF m 283 #[vJ q1, .second, vI p2, vJ q3, .second, vI p4, vR b1, vI fv, vI tv, vI kv, vI v43, vI v46, vI 2, vR b97, vR b110, .unset] [iI 0, iR b97])) rfl rfl (hb hby at_283) _ ?_
          show Steps _ _ _ (T115.setTop (mkF m 284 #[vJ q1, .second, vI p2, vJ q3, .second, vI p4, vR b1, vI fv, vI tv, vI kv, vI v43, vI v46, vI 2, vR b97, vR b110, .unset] [iI (nar .byte nbt0)])) _
          refine XS.aload X115.here hx rfl (hb hby at_284) rfl rfl ?_
          show Steps _ _ _ (T115.setTop (mkF m 286 #[vJ q1, .second, vI p2, vJ q3, .second, vI p4, vR b1, vI fv, vI tv, vI kv, vI v43, vI v46, vI 2, vR b97, vR b110, .unset] [iR b1, iI (nar .byte nbt0)])) _
          refine XS.iload X115.here hx rfl (hb hby at_286) rfl ?_
          show Steps _ _ _ (T115.setTop (mkF m 288 #[vJ q1, .second, vI p2, vJ q3, .second, vI p4, vR b1, vI fv, vI tv, vI kv, vI v43, vI v46, vI 2, vR b97, vR b110, .unset] [iI v43, iR b1, iI (nar .byte nbt0)])) _
          refine X115.baloadBytes hx (j := v43) (v := (.int (own_at (nar .byte nb0) (nar .byte nb1) (nar .byte nb2) (nar .byte v17) (nar .byte nb4) (nar .byte nb5) (nar .byte nb6) v43))) Ar125.1 (State.isArrayOf_alike hZ.alike Ar125.2.1) Ar125.2.2 hin126 hat127 (g := (mkF m 288 #[vJ q1, .second, vI p2, vJ q3, .second, vI p4, vR b1, vI fv, vI tv, vI kv, vI v43, vI v46, vI 2, vR b97, vR b110, .unset] [iI v43, iR b1, iI (nar .byte nbt0)])) rfl rfl (hb hby at_288) _ ?_
          exact kt
        by_cases hc128 : (nar .byte nbt0) = (own_at (nar .byte nb0) (nar .byte nb1) (nar .byte nb2) (nar .byte v17) (nar .byte nb4) (nar .byte nb5) (nar .byte nb6) v43)
        · have hin130 : ¬ ((1 : Int32) < 0 ∨ cl121.slots.size ≤ ((1 : Int32)).toNatClampNeg) := inb_of S121 ⟨by decide, by decide⟩
          have hat131 : cl121.slots[((1 : Int32)).toNatClampNeg]? = some (.int (nar .byte nbt1)) := Has.at H121 hin130 rfl
          have hin132 : ¬ ((v43 + (1 : Int32)) < 0 ∨ cl125.slots.size ≤ ((v43 + (1 : Int32))).toNatClampNeg) := inb_of S125 (own_pin1 q10)
          have hat133 : cl125.slots[((v43 + (1 : Int32))).toNatClampNeg]? = some (.int (own_at (nar .byte nb0) (nar .byte nb1) (nar .byte nb2) (nar .byte v17) (nar .byte nb4) (nar .byte nb5) (nar .byte nb6) (v43 + (1 : Int32)))) := Has.at H125 hin132 (own_atL (own_pin1 q10))
          have pre135 : ∀ t, Steps p.tables e below (T115.setTop (mkF m 309 #[vJ q1, .second, vI p2, vJ q3, .second, vI p4, vR b1, vI fv, vI tv, vI kv, vI v43, vI v46, vI 2, vR b97, vR b110, .unset] [iI (own_at (nar .byte nb0) (nar .byte nb1) (nar .byte nb2) (nar .byte v17) (nar .byte nb4) (nar .byte nb5) (nar .byte nb6) (v43 + (1 : Int32))), iI (nar .byte nbt1)])) t → Steps p.tables e below (T115.setTop (mkF m 271 #[vJ q1, .second, vI p2, vJ q3, .second, vI p4, vR b1, vI fv, vI tv, vI kv, vI v43, vI v46, vI 2, vR b97, vR b110, .unset] [iI 2, iI (v46 - v43)])) t := by
            intro t kt
            refine pre129 t ?_
            show Steps _ _ _ (T115.setTop (mkF m 289 #[vJ q1, .second, vI p2, vJ q3, .second, vI p4, vR b1, vI fv, vI tv, vI kv, vI v43, vI v46, vI 2, vR b97, vR b110, .unset] [iI (own_at (nar .byte nb0) (nar .byte nb1) (nar .byte nb2) (nar .byte v17) (nar .byte nb4) (nar .byte nb5) (nar .byte nb6) v43), iI (nar .byte nbt0)])) _
            refine XS.icmpNo X115.here hx rfl (hb hby at_289) rfl (teq hc128).2 ?_
            show Steps _ _ _ (T115.setTop (mkF m 292 #[vJ q1, .second, vI p2, vJ q3, .second, vI p4, vR b1, vI fv, vI tv, vI kv, vI v43, vI v46, vI 2, vR b97, vR b110, .unset] [])) _
            refine XS.iload X115.here hx rfl (hb hby at_292) rfl ?_
            show Steps _ _ _ (T115.setTop (mkF m 294 #[vJ q1, .second, vI p2, vJ q3, .second, vI p4, vR b1, vI fv, vI tv, vI kv, vI v43, vI v46, vI 2, vR b97, vR b110, .unset] [iI 2])) _
            refine XS.iconst X115.here hx rfl (hb hby at_294) ?_
            show Steps _ _ _ (T115.setTop (mkF m 295 #[vJ q1, .second, vI p2, vJ q3, .second, vI p4, vR b1, vI fv, vI tv, vI kv, vI v43, vI v46, vI 2, vR b97, vR b110, .unset] [iI 2, iI 2])) _
            refine XS.icmpNo X115.here hx rfl (hb hby at_295) rfl (flt (by decide : ¬ ((2 : Int32) < (2 : Int32)))).1 ?_
            show Steps _ _ _ (T115.setTop (mkF m 298 #[vJ q1, .second, vI p2, vJ q3, .second, vI p4, vR b1, vI fv, vI tv, vI kv, vI v43, vI v46, vI 2, vR b97, vR b110, .unset] [])) _
            refine XS.aload X115.here hx rfl (hb hby at_298) rfl rfl ?_
            show Steps _ _ _ (T115.setTop (mkF m 300 #[vJ q1, .second, vI p2, vJ q3, .second, vI p4, vR b1, vI fv, vI tv, vI kv, vI v43, vI v46, vI 2, vR b97, vR b110, .unset] [iR b97])) _
            refine XS.iconst X115.here hx rfl (hb hby at_300) ?_
            show Steps _ _ _ (T115.setTop (mkF m 301 #[vJ q1, .second, vI p2, vJ q3, .second, vI p4, vR b1, vI fv, vI tv, vI kv, vI v43, vI v46, vI 2, vR b97, vR b110, .unset] [iI 1, iR b97])) _
            refine X115.baloadBytes hx (j := (1 : Int32)) (v := (.int (nar .byte nbt1))) Ar121.1 (State.isArrayOf_alike hZ.alike Ar121.2.1) Ar121.2.2 hin130 hat131 (g := (mkF m 301 #[vJ q1, .second, vI p2, vJ q3, .second, vI p4, vR b1, vI fv, vI tv, vI kv, vI v43, vI v46, vI 2, vR b97, vR b110, .unset] [iI 1, iR b97])) rfl rfl (hb hby at_301) _ ?_
            show Steps _ _ _ (T115.setTop (mkF m 302 #[vJ q1, .second, vI p2, vJ q3, .second, vI p4, vR b1, vI fv, vI tv, vI kv, vI v43, vI v46, vI 2, vR b97, vR b110, .unset] [iI (nar .byte nbt1)])) _
            refine XS.aload X115.here hx rfl (hb hby at_302) rfl rfl ?_
            show Steps _ _ _ (T115.setTop (mkF m 304 #[vJ q1, .second, vI p2, vJ q3, .second, vI p4, vR b1, vI fv, vI tv, vI kv, vI v43, vI v46, vI 2, vR b97, vR b110, .unset] [iR b1, iI (nar .byte nbt1)])) _
            refine XS.iload X115.here hx rfl (hb hby at_304) rfl ?_
            show Steps _ _ _ (T115.setTop (mkF m 306 #[vJ q1, .second, vI p2, vJ q3, .second, vI p4, vR b1, vI fv, vI tv, vI kv, vI v43, vI v46, vI 2, vR b97, vR b110, .unset] [iI v43, iR b1, iI (nar .byte nbt1)])) _
            refine XS.iconst X115.here hx rfl (hb hby at_306) ?_
            show Steps _ _ _ (T115.setTop (mkF m 307 #[vJ q1, .second, vI p2, vJ q3, .second, vI p4, vR b1, vI fv, vI tv, vI kv, vI v43, vI v46, vI 2, vR b97, vR b110, .unset] [iI 1, iI v43, iR b1, iI (nar .byte nbt1)])) _
            refine XS.iadd X115.here hx rfl (hb hby at_307) rfl ?_
            show Steps _ _ _ (T115.setTop (mkF m 308 #[vJ q1, .second, vI p2, vJ q3, .second, vI p4, vR b1, vI fv, vI tv, vI kv, vI v43, vI v46, vI 2, vR b97, vR b110, .unset] [iI (v43 + (1 : Int32)), iR b1, iI (nar .byte nbt1)])) _
            refine X115.baloadBytes hx (j := (v43 + (1 : Int32))) (v := (.int (own_at (nar .byte nb0) (nar .byte nb1) (nar .byte nb2) (nar .byte v17) (nar .byte nb4) (nar .byte nb5) (nar .byte nb6) (v43 + (1 : Int32))))) Ar125.1 (State.isArrayOf_alike hZ.alike Ar125.2.1) Ar125.2.2 hin132 hat133 (g := (mkF m 308 #[vJ q1, .second, vI p2, vJ q3, .second, vI p4, vR b1, vI fv, vI tv, vI kv, vI v43, vI v46, vI 2, vR b97, vR b110, .unset] [iI (v43 + (1 : Int32)), iR b1, iI (nar .byte nbt1)])) rfl rfl (hb hby at_308) _ ?_
            exact kt
          by_cases hc134 : (nar .byte nbt1) = (own_at (nar .byte nb0) (nar .byte nb1) (nar .byte nb2) (nar .byte v17) (nar .byte nb4) (nar .byte nb5) (nar .byte nb6) (v43 + (1 : Int32)))
          · refine ⟨T115, X115, rfl, fun t kt => ?_⟩
            subst hv117
            simp only [if_pos hc119, if_pos hc128, if_pos hc134] at kt
            refine pre135 t ?_
            show Steps _ _ _ (T115.setTop (mkF m 309 #[vJ q1, .second, vI p2, vJ q3, .second, vI p4, vR b1, vI fv, vI tv, vI kv, vI v43, vI v46, vI 2, vR b97, vR b110, .unset] [iI (own_at (nar .byte nb0) (nar .byte nb1) (nar .byte nb2) (nar .byte v17) (nar .byte nb4) (nar .byte nb5) (nar .byte nb6) (v43 + (1 : Int32))), iI (nar .byte nbt1)])) _
            refine XS.icmpNo X115.here hx rfl (hb hby at_309) rfl (teq hc134).2 ?_
            show Steps _ _ _ (T115.setTop (mkF m 312 #[vJ q1, .second, vI p2, vJ q3, .second, vI p4, vR b1, vI fv, vI tv, vI kv, vI v43, vI v46, vI 2, vR b97, vR b110, .unset] [])) _
            refine XS.iload X115.here hx rfl (hb hby at_312) rfl ?_
            show Steps _ _ _ (T115.setTop (mkF m 314 #[vJ q1, .second, vI p2, vJ q3, .second, vI p4, vR b1, vI fv, vI tv, vI kv, vI v43, vI v46, vI 2, vR b97, vR b110, .unset] [iI 2])) _
            refine XS.iconst X115.here hx rfl (hb hby at_314) ?_
            show Steps _ _ _ (T115.setTop (mkF m 315 #[vJ q1, .second, vI p2, vJ q3, .second, vI p4, vR b1, vI fv, vI tv, vI kv, vI v43, vI v46, vI 2, vR b97, vR b110, .unset] [iI 3, iI 2])) _
            refine XS.icmpYes X115.here hx rfl (pc0 := 315) (pc' := 332) rfl (hb hby at_315) rfl (tlt (by decide : (2 : Int32) < (3 : Int32))).1 (by decide) (by decide) ?_
            show Steps _ _ _ (T115.setTop (mkF m 332 #[vJ q1, .second, vI p2, vJ q3, .second, vI p4, vR b1, vI fv, vI tv, vI kv, vI v43, vI v46, vI 2, vR b97, vR b110, .unset] [])) _
            refine XS.iconst X115.here hx rfl (hb hby at_332) ?_
            show Steps _ _ _ (T115.setTop (mkF m 333 #[vJ q1, .second, vI p2, vJ q3, .second, vI p4, vR b1, vI fv, vI tv, vI kv, vI v43, vI v46, vI 2, vR b97, vR b110, .unset] [iI 1])) _
            refine XS.goto X115.here hx rfl (pc0 := 333) (pc' := 337) rfl (hb hby at_333) (by decide) (by decide) ?_
            exact kt
          · refine ⟨T115, X115, rfl, fun t kt => ?_⟩
            subst hv117
            simp only [if_pos hc119, if_pos hc128, if_neg hc134] at kt
            refine pre135 t ?_
            show Steps _ _ _ (T115.setTop (mkF m 309 #[vJ q1, .second, vI p2, vJ q3, .second, vI p4, vR b1, vI fv, vI tv, vI kv, vI v43, vI v46, vI 2, vR b97, vR b110, .unset] [iI (own_at (nar .byte nb0) (nar .byte nb1) (nar .byte nb2) (nar .byte v17) (nar .byte nb4) (nar .byte nb5) (nar .byte nb6) (v43 + (1 : Int32))), iI (nar .byte nbt1)])) _
            refine XS.icmpYes X115.here hx rfl (pc0 := 309) (pc' := 336) rfl (hb hby at_309) rfl (feq hc134).2 (by decide) (by decide) ?_
            show Steps _ _ _ (T115.setTop (mkF m 336 #[vJ q1, .second, vI p2, vJ q3, .second, vI p4, vR b1, vI fv, vI tv, vI kv, vI v43, vI v46, vI 2, vR b97, vR b110, .unset] [])) _
            refine XS.iconst X115.here hx rfl (hb hby at_336) ?_
            exact kt
        · refine ⟨T115, X115, rfl, fun t kt => ?_⟩
          subst hv117
          simp only [if_pos hc119, if_neg hc128] at kt
          refine pre129 t ?_
          show Steps _ _ _ (T115.setTop (mkF m 289 #[vJ q1, .second, vI p2, vJ q3, .second, vI p4, vR b1, vI fv, vI tv, vI kv, vI v43, vI v46, vI 2, vR b97, vR b110, .unset] [iI (own_at (nar .byte nb0) (nar .byte nb1) (nar .byte nb2) (nar .byte v17) (nar .byte nb4) (nar .byte nb5) (nar .byte nb6) v43), iI (nar .byte nbt0)])) _
          refine XS.icmpYes X115.here hx rfl (pc0 := 289) (pc' := 336) rfl (hb hby at_289) rfl (feq hc128).2 (by decide) (by decide) ?_
          show Steps _ _ _ (T115.setTop (mkF m 336 #[vJ q1, .second, vI p2, vJ q3, .second, vI p4, vR b1, vI fv, vI tv, vI kv, vI v43, vI v46, vI 2, vR b97, vR b110, .unset] [])) _
          refine XS.iconst X115.here hx rfl (hb hby at_336) ?_
          exact kt
      · refine ⟨T115, X115, rfl, fun t kt => ?_⟩
        subst hv117
        simp only [if_neg hc119] at kt
        show Steps _ _ _ (T115.setTop (mkF m 271 #[vJ q1, .second, vI p2, vJ q3, .second, vI p4, vR b1, vI fv, vI tv, vI kv, vI v43, vI v46, vI 2, vR b97, vR b110, .unset] [iI 2, iI (v46 - v43)])) _
        refine XS.icmpYes X115.here hx rfl (pc0 := 271) (pc' := 336) rfl (hb hby at_271) rfl (feq hc119).2 (by decide) (by decide) ?_
        show Steps _ _ _ (T115.setTop (mkF m 336 #[vJ q1, .second, vI p2, vJ q3, .second, vI p4, vR b1, vI fv, vI tv, vI kv, vI v43, vI v46, vI 2, vR b97, vR b110, .unset] [])) _
        refine XS.iconst X115.here hx rfl (hb hby at_336) ?_
        exact kt
    have fk137 := (fk116.keep K115q (ninS ne_b1_b110 (ninS ne_b1_s1 (ninS ne_b1_s2 nin0))))
    have fk138 := ((fk114.keep K112q (ninS ne_b97_b110 nin0)).keep K115q (ninS ne_b97_b110 (ninS ne_b97_s1 (ninS ne_b97_s2 nin0))))
    obtain ⟨cq136, kq136, q136a, q136b, q136c⟩ := isOf hZ e118 E115q
    obtain ⟨_, _, ⟨T136, L136, k136, n136⟩, -, X136, ⟨Lc136, hQ136, l136, y136, z136⟩, st136⟩ := X118.virtualBack hx (y := (⟨"com/example/tidemine/tidemine/TextFormat$Tokens", "is", "(I[B)Z"⟩ : MethodName)) (z := (⟨"com/example/tidemine/tidemine/TextFormat$Tokens", "is", "(I[B)Z"⟩ : MethodName)) hown (mvT hZ (hw _ (List.mem_of_getElem? (i := 36) rfl))) (mvT hZ (hw _ (List.mem_of_getElem? (i := 37) rfl))) (notFace_of_selects (args := #[]) (mvT hZ (hw _ (List.mem_of_getElem? (i := 39) rfl)))) (mvT hZ (hw _ (List.mem_of_getElem? (i := 39) rfl))) (mvT hZ (hw _ (List.mem_of_getElem? (i := 38) rfl))) (by decide) (backOf (W := 0) (rm7_2 l Z a0 hw [] b110 kv b97 s1 s2 b1 kt1 kt2 k1 k97 fv tv (nar .byte nb0) (nar .byte nb1) (nar .byte nb2) (nar .byte v17) (nar .byte nb4) (nar .byte nb5) (nar .byte nb6) (nar .byte nbt0) (nar .byte nbt1) T115.heap Fl115q Fs115q Fe115q V1115q V2115q fk137 fk138 qkv qfv qtv) hZ (hw _ (List.mem_of_getElem? (i := 40) rfl)) (hw _ (List.mem_of_getElem? (i := 11) rfl)) (by decide) (by decide)) q136a q136c (g := (mkF m 345 #[vJ q1, .second, vI p2, vJ q3, .second, vI p4, vR b1, vI fv, vI tv, vI kv, vI v43, vI v46, vI 2, vR b97, vR b110, vI v117] [iR b97, iI kv, iR b110])) rfl (by rw [hml]; rfl) (Steps.refl _) (argsL := [(.int kv), (.ref b97)]) (rest := []) (lenOf pd_5 rfl) rfl (by show 2 * 0 + _ ≤ _; exact Nat.le_of_eq rfl) (hb hby at_345) (fun _ _ => ⟨rfl, e118, (by decide : 5 + 0 ≤ _), (by decide : 45 + 0 ≤ _)⟩)
    dsimp only [Pt.U, Pt.locs, Pt.cells, Pt.slots] at X136 l136 y136 z136 st136 hQ136
    subst l136 y136 z136
    obtain ⟨rfl, rfl, e136⟩ := hQ136
    try rw [List.append_nil] at X136
    have hh139 : (own_is_2 kv fv tv (nar .byte nb0) (nar .byte nb1) (nar .byte nb2) (nar .byte v17) (nar .byte nb4) (nar .byte nb5) (nar .byte nb6) (nar .byte nbt0) (nar .byte nbt1)) = v117 := (by rw [hv117]; exact own_fin2 _ _ _ _ _ _ _ _ _ _ _ _ _ _ hv43 hv46)
    obtain ⟨fs, hr, hrun, hended, hW, hsame⟩ := X136.leave (v := some (.int (1 : Int32))) (fun h => by rw [Bd.returns] at h; cases h)
    refine ⟨_, _, pre50 _ ?_, hrun, hended, _, _, rfl, ?_, ⟨_, rfl⟩, hW, hsame.mono (by decide) (by decide)⟩
    · show Steps _ _ _ (T47.setTop (mkF m 142 #[vJ q1, .second, vI p2, vJ q3, .second, vI p4, vR b1, vI fv, vI tv, vI kv, vI v43, vI v46, vI 2, .unset, .unset, .unset] [])) _
      refine XS.iload X47.here hx rfl (hb hby at_142) rfl ?_
      show Steps _ _ _ (T47.setTop (mkF m 144 #[vJ q1, .second, vI p2, vJ q3, .second, vI p4, vR b1, vI fv, vI tv, vI kv, vI v43, vI v46, vI 2, .unset, .unset, .unset] [iI 2])) _
      refine XS.ifYes X47.here hx rfl (pc0 := 144) (pc' := 153) rfl (hb hby at_144) rfl ((if0 _ _).trans (feq (by decide : ¬ ((2 : Int32) = (0 : Int32)))).2) (by decide) (by decide) ?_
      show Steps _ _ _ (T47.setTop (mkF m 153 #[vJ q1, .second, vI p2, vJ q3, .second, vI p4, vR b1, vI fv, vI tv, vI kv, vI v43, vI v46, vI 2, .unset, .unset, .unset] [])) _
      refine XS.iload X47.here hx rfl (hb hby at_153) rfl ?_
      show Steps _ _ _ (T47.setTop (mkF m 155 #[vJ q1, .second, vI p2, vJ q3, .second, vI p4, vR b1, vI fv, vI tv, vI kv, vI v43, vI v46, vI 2, .unset, .unset, .unset] [iI 2])) _
      refine XS.iconst X47.here hx rfl (hb hby at_155) ?_
      show Steps _ _ _ (T47.setTop (mkF m 156 #[vJ q1, .second, vI p2, vJ q3, .second, vI p4, vR b1, vI fv, vI tv, vI kv, vI v43, vI v46, vI 2, .unset, .unset, .unset] [iI 1, iI 2])) _
      refine XS.icmpYes X47.here hx rfl (pc0 := 156) (pc' := 165) rfl (hb hby at_156) rfl (feq (by decide : ¬ ((2 : Int32) = (1 : Int32)))).2 (by decide) (by decide) ?_
      show Steps _ _ _ (T47.setTop (mkF m 165 #[vJ q1, .second, vI p2, vJ q3, .second, vI p4, vR b1, vI fv, vI tv, vI kv, vI v43, vI v46, vI 2, .unset, .unset, .unset] [])) _
      refine XS.iload X47.here hx rfl (hb hby at_165) rfl ?_
      show Steps _ _ _ (T47.setTop (mkF m 167 #[vJ q1, .second, vI p2, vJ q3, .second, vI p4, vR b1, vI fv, vI tv, vI kv, vI v43, vI v46, vI 2, .unset, .unset, .unset] [iI 2])) _
      refine XS.iconst X47.here hx rfl (hb hby at_167) ?_
      show Steps _ _ _ (T47.setTop (mkF m 168 #[vJ q1, .second, vI p2, vJ q3, .second, vI p4, vR b1, vI fv, vI tv, vI kv, vI v43, vI v46, vI 2, .unset, .unset, .unset] [iI 2, iI 2])) _
      refine XS.icmpNo X47.here hx rfl (hb hby at_168) rfl (teq (by decide : (2 : Int32) = (2 : Int32))).2 ?_
      show Steps _ _ _ (T47.setTop (mkF m 171 #[vJ q1, .second, vI p2, vJ q3, .second, vI p4, vR b1, vI fv, vI tv, vI kv, vI v43, vI v46, vI 2, .unset, .unset, .unset] [])) _
      refine XS.iconst X47.here hx rfl (hb hby at_171) ?_
      show Steps _ _ _ (T47.setTop (mkF m 172 #[vJ q1, .second, vI p2, vJ q3, .second, vI p4, vR b1, vI fv, vI tv, vI kv, vI v43, vI v46, vI 2, .unset, .unset, .unset] [iI 2])) _
      refine st97 _ ?_
      show Steps _ _ _ (T97.setTop (mkF m 174 #[vJ q1, .second, vI p2, vJ q3, .second, vI p4, vR b1, vI fv, vI tv, vI kv, vI v43, vI v46, vI 2, .unset, .unset, .unset] [iR b97])) _
      refine XS.goto X97.here hx rfl (pc0 := 174) (pc' := 180) rfl (hb hby at_174) (by decide) (by decide) ?_
      show Steps _ _ _ (T97.setTop (mkF m 180 #[vJ q1, .second, vI p2, vJ q3, .second, vI p4, vR b1, vI fv, vI tv, vI kv, vI v43, vI v46, vI 2, .unset, .unset, .unset] [iR b97])) _
      refine XS.astore X97.here hx rfl (hb hby at_180) rfl rfl (l' := #[vJ q1, .second, vI p2, vJ q3, .second, vI p4, vR b1, vI fv, vI tv, vI kv, vI v43, vI v46, vI 2, vR b97, .unset, .unset]) rfl ?_
      show Steps _ _ _ (T97.setTop (mkF m 182 #[vJ q1, .second, vI p2, vJ q3, .second, vI p4, vR b1, vI fv, vI tv, vI kv, vI v43, vI v46, vI 2, vR b97, .unset, .unset] [])) _
      refine XS.iload X97.here hx rfl (hb hby at_182) rfl ?_
      show Steps _ _ _ (T97.setTop (mkF m 184 #[vJ q1, .second, vI p2, vJ q3, .second, vI p4, vR b1, vI fv, vI tv, vI kv, vI v43, vI v46, vI 2, vR b97, .unset, .unset] [iI 2])) _
      refine XS.ifNo X97.here hx rfl (hb hby at_184) rfl ((if0 _ _).trans (tlt (by decide : (0 : Int32) < (2 : Int32))).2.2.2) ?_
      show Steps _ _ _ (T97.setTop (mkF m 187 #[vJ q1, .second, vI p2, vJ q3, .second, vI p4, vR b1, vI fv, vI tv, vI kv, vI v43, vI v46, vI 2, vR b97, .unset, .unset] [])) _
      refine XS.aload X97.here hx rfl (hb hby at_187) rfl rfl ?_
      show Steps _ _ _ (T97.setTop (mkF m 189 #[vJ q1, .second, vI p2, vJ q3, .second, vI p4, vR b1, vI fv, vI tv, vI kv, vI v43, vI v46, vI 2, vR b97, .unset, .unset] [iR b97])) _
      refine XS.iconst X97.here hx rfl (hb hby at_189) ?_
      show Steps _ _ _ (T97.setTop (mkF m 190 #[vJ q1, .second, vI p2, vJ q3, .second, vI p4, vR b1, vI fv, vI tv, vI kv, vI v43, vI v46, vI 2, vR b97, .unset, .unset] [iI 0, iR b97])) _
      refine XS.aload X97.here hx rfl (hb hby at_190) rfl rfl ?_
      show Steps _ _ _ (T97.setTop (mkF m 192 #[vJ q1, .second, vI p2, vJ q3, .second, vI p4, vR b1, vI fv, vI tv, vI kv, vI v43, vI v46, vI 2, vR b97, .unset, .unset] [iR b1, iI 0, iR b97])) _
      refine XS.iload X97.here hx rfl (hb hby at_192) rfl ?_
      show Steps _ _ _ (T97.setTop (mkF m 194 #[vJ q1, .second, vI p2, vJ q3, .second, vI p4, vR b1, vI fv, vI tv, vI kv, vI v43, vI v46, vI 2, vR b97, .unset, .unset] [iI v43, iR b1, iI 0, iR b97])) _
      refine XS.lloadN X97.here hx rfl (hb hby at_194) rfl ?_
      show Steps _ _ _ (T97.setTop (mkF m 195 #[vJ q1, .second, vI p2, vJ q3, .second, vI p4, vR b1, vI fv, vI tv, vI kv, vI v43, vI v46, vI 2, vR b97, .unset, .unset] [iJ q3, iI v43, iR b1, iI 0, iR b97])) _
      refine XS.iconst X97.here hx rfl (hb hby at_195) ?_
      show Steps _ _ _ (T97.setTop (mkF m 196 #[vJ q1, .second, vI p2, vJ q3, .second, vI p4, vR b1, vI fv, vI tv, vI kv, vI v43, vI v46, vI 2, vR b97, .unset, .unset] [iI 0, iJ q3, iI v43, iR b1, iI 0, iR b97])) _
      refine XS.iload X97.here hx rfl (hb hby at_196) rfl ?_
      show Steps _ _ _ (T97.setTop (mkF m 198 #[vJ q1, .second, vI p2, vJ q3, .second, vI p4, vR b1, vI fv, vI tv, vI kv, vI v43, vI v46, vI 2, vR b97, .unset, .unset] [iI p4, iI 0, iJ q3, iI v43, iR b1, iI 0, iR b97])) _
      refine st98 _ ?_
      rw [← hnbt0]
      show Steps _ _ _ (T98.setTop (mkF m 201 #[vJ q1, .second, vI p2, vJ q3, .second, vI p4, vR b1, vI fv, vI tv, vI kv, vI v43, vI v46, vI 2, vR b97, .unset, .unset] [iI nbt0, iI 0, iR b97])) _
      refine st103 _ ?_
      show Steps _ _ _ (T103.setTop (mkF m 202 #[vJ q1, .second, vI p2, vJ q3, .second, vI p4, vR b1, vI fv, vI tv, vI kv, vI v43, vI v46, vI 2, vR b97, .unset, .unset] [])) _
      refine XS.iload X103.here hx rfl (hb hby at_202) rfl ?_
      show Steps _ _ _ (T103.setTop (mkF m 204 #[vJ q1, .second, vI p2, vJ q3, .second, vI p4, vR b1, vI fv, vI tv, vI kv, vI v43, vI v46, vI 2, vR b97, .unset, .unset] [iI 2])) _
      refine XS.iconst X103.here hx rfl (hb hby at_204) ?_
      show Steps _ _ _ (T103.setTop (mkF m 205 #[vJ q1, .second, vI p2, vJ q3, .second, vI p4, vR b1, vI fv, vI tv, vI kv, vI v43, vI v46, vI 2, vR b97, .unset, .unset] [iI 1, iI 2])) _
      refine XS.icmpNo X103.here hx rfl (hb hby at_205) rfl (tlt (by decide : (1 : Int32) < (2 : Int32))).2.2.2 ?_
      show Steps _ _ _ (T103.setTop (mkF m 208 #[vJ q1, .second, vI p2, vJ q3, .second, vI p4, vR b1, vI fv, vI tv, vI kv, vI v43, vI v46, vI 2, vR b97, .unset, .unset] [])) _
      refine XS.aload X103.here hx rfl (hb hby at_208) rfl rfl ?_
      show Steps _ _ _ (T103.setTop (mkF m 210 #[vJ q1, .second, vI p2, vJ q3, .second, vI p4, vR b1, vI fv, vI tv, vI kv, vI v43, vI v46, vI 2, vR b97, .unset, .unset] [iR b97])) _
      refine XS.iconst X103.here hx rfl (hb hby at_210) ?_
      show Steps _ _ _ (T103.setTop (mkF m 211 #[vJ q1, .second, vI p2, vJ q3, .second, vI p4, vR b1, vI fv, vI tv, vI kv, vI v43, vI v46, vI 2, vR b97, .unset, .unset] [iI 1, iR b97])) _
      refine XS.aload X103.here hx rfl (hb hby at_211) rfl rfl ?_
      show Steps _ _ _ (T103.setTop (mkF m 213 #[vJ q1, .second, vI p2, vJ q3, .second, vI p4, vR b1, vI fv, vI tv, vI kv, vI v43, vI v46, vI 2, vR b97, .unset, .unset] [iR b1, iI 1, iR b97])) _
      refine XS.iload X103.here hx rfl (hb hby at_213) rfl ?_
      show Steps _ _ _ (T103.setTop (mkF m 215 #[vJ q1, .second, vI p2, vJ q3, .second, vI p4, vR b1, vI fv, vI tv, vI kv, vI v43, vI v46, vI 2, vR b97, .unset, .unset] [iI v43, iR b1, iI 1, iR b97])) _
      refine XS.lloadN X103.here hx rfl (hb hby at_215) rfl ?_
      show Steps _ _ _ (T103.setTop (mkF m 216 #[vJ q1, .second, vI p2, vJ q3, .second, vI p4, vR b1, vI fv, vI tv, vI kv, vI v43, vI v46, vI 2, vR b97, .unset, .unset] [iJ q3, iI v43, iR b1, iI 1, iR b97])) _
      refine XS.iconst X103.here hx rfl (hb hby at_216) ?_
      show Steps _ _ _ (T103.setTop (mkF m 217 #[vJ q1, .second, vI p2, vJ q3, .second, vI p4, vR b1, vI fv, vI tv, vI kv, vI v43, vI v46, vI 2, vR b97, .unset, .unset] [iI 1, iJ q3, iI v43, iR b1, iI 1, iR b97])) _
      refine XS.iload X103.here hx rfl (hb hby at_217) rfl ?_
      show Steps _ _ _ (T103.setTop (mkF m 219 #[vJ q1, .second, vI p2, vJ q3, .second, vI p4, vR b1, vI fv, vI tv, vI kv, vI v43, vI v46, vI 2, vR b97, .unset, .unset] [iI p4, iI 1, iJ q3, iI v43, iR b1, iI 1, iR b97])) _
      refine st104 _ ?_
      rw [← hnbt1]
      show Steps _ _ _ (T104.setTop (mkF m 222 #[vJ q1, .second, vI p2, vJ q3, .second, vI p4, vR b1, vI fv, vI tv, vI kv, vI v43, vI v46, vI 2, vR b97, .unset, .unset] [iI nbt1, iI 1, iR b97])) _
      refine st109 _ ?_
      show Steps _ _ _ (T109.setTop (mkF m 223 #[vJ q1, .second, vI p2, vJ q3, .second, vI p4, vR b1, vI fv, vI tv, vI kv, vI v43, vI v46, vI 2, vR b97, .unset, .unset] [])) _
      refine XS.iload X109.here hx rfl (hb hby at_223) rfl ?_
      show Steps _ _ _ (T109.setTop (mkF m 225 #[vJ q1, .second, vI p2, vJ q3, .second, vI p4, vR b1, vI fv, vI tv, vI kv, vI v43, vI v46, vI 2, vR b97, .unset, .unset] [iI 2])) _
      refine XS.iconst X109.here hx rfl (hb hby at_225) ?_
      show Steps _ _ _ (T109.setTop (mkF m 226 #[vJ q1, .second, vI p2, vJ q3, .second, vI p4, vR b1, vI fv, vI tv, vI kv, vI v43, vI v46, vI 2, vR b97, .unset, .unset] [iI 2, iI 2])) _
      refine XS.icmpYes X109.here hx rfl (pc0 := 226) (pc' := 244) rfl (hb hby at_226) rfl (flt (by decide : ¬ ((2 : Int32) < (2 : Int32)))).2.2.2 (by decide) (by decide) ?_
      show Steps _ _ _ (T109.setTop (mkF m 244 #[vJ q1, .second, vI p2, vJ q3, .second, vI p4, vR b1, vI fv, vI tv, vI kv, vI v43, vI v46, vI 2, vR b97, .unset, .unset] [])) _
      refine st110 _ ?_
      show Steps _ _ _ (T110.setTop (mkF m 247 #[vJ q1, .second, vI p2, vJ q3, .second, vI p4, vR b1, vI fv, vI tv, vI kv, vI v43, vI v46, vI 2, vR b97, .unset, .unset] [iR b110])) _
      refine XS.dup X110.here hx rfl (hb hby at_247) rfl rfl ?_
      show Steps _ _ _ (T110.setTop (mkF m 248 #[vJ q1, .second, vI p2, vJ q3, .second, vI p4, vR b1, vI fv, vI tv, vI kv, vI v43, vI v46, vI 2, vR b97, .unset, .unset] [iR b110, iR b110])) _
      refine st112.trans ?_
      show Steps _ _ _ (T112.setTop (mkF m 251 #[vJ q1, .second, vI p2, vJ q3, .second, vI p4, vR b1, vI fv, vI tv, vI kv, vI v43, vI v46, vI 2, vR b97, .unset, .unset] [iR b110])) _
      refine XS.astore X112.here hx rfl (hb hby at_251) rfl rfl (l' := #[vJ q1, .second, vI p2, vJ q3, .second, vI p4, vR b1, vI fv, vI tv, vI kv, vI v43, vI v46, vI 2, vR b97, vR b110, .unset]) rfl ?_
      show Steps _ _ _ (T112.setTop (mkF m 253 #[vJ q1, .second, vI p2, vJ q3, .second, vI p4, vR b1, vI fv, vI tv, vI kv, vI v43, vI v46, vI 2, vR b97, vR b110, .unset] [])) _
      refine XS.aload X112.here hx rfl (hb hby at_253) rfl rfl ?_
      show Steps _ _ _ (T112.setTop (mkF m 255 #[vJ q1, .second, vI p2, vJ q3, .second, vI p4, vR b1, vI fv, vI tv, vI kv, vI v43, vI v46, vI 2, vR b97, vR b110, .unset] [iR b110])) _
      refine XS.aload X112.here hx rfl (hb hby at_255) rfl rfl ?_
      show Steps _ _ _ (T112.setTop (mkF m 257 #[vJ q1, .second, vI p2, vJ q3, .second, vI p4, vR b1, vI fv, vI tv, vI kv, vI v43, vI v46, vI 2, vR b97, vR b110, .unset] [iR b1, iR b110])) _
      refine XS.iload X112.here hx rfl (hb hby at_257) rfl ?_
      show Steps _ _ _ (T112.setTop (mkF m 259 #[vJ q1, .second, vI p2, vJ q3, .second, vI p4, vR b1, vI fv, vI tv, vI kv, vI v43, vI v46, vI 2, vR b97, vR b110, .unset] [iI fv, iR b1, iR b110])) _
      refine XS.iload X112.here hx rfl (hb hby at_259) rfl ?_
      show Steps _ _ _ (T112.setTop (mkF m 261 #[vJ q1, .second, vI p2, vJ q3, .second, vI p4, vR b1, vI fv, vI tv, vI kv, vI v43, vI v46, vI 2, vR b97, vR b110, .unset] [iI tv, iI fv, iR b1, iR b110])) _
      refine st115.trans ?_
      show Steps _ _ _ (T115.setTop (mkF m 264 #[vJ q1, .second, vI p2, vJ q3, .second, vI p4, vR b1, vI fv, vI tv, vI kv, vI v43, vI v46, vI 2, vR b97, vR b110, .unset] [])) _
      refine XS.iload X115.here hx rfl (hb hby at_264) rfl ?_
      show Steps _ _ _ (T115.setTop (mkF m 266 #[vJ q1, .second, vI p2, vJ q3, .second, vI p4, vR b1, vI fv, vI tv, vI kv, vI v43, vI v46, vI 2, vR b97, vR b110, .unset] [iI v46])) _
      refine XS.iload X115.here hx rfl (hb hby at_266) rfl ?_
      show Steps _ _ _ (T115.setTop (mkF m 268 #[vJ q1, .second, vI p2, vJ q3, .second, vI p4, vR b1, vI fv, vI tv, vI kv, vI v43, vI v46, vI 2, vR b97, vR b110, .unset] [iI v43, iI v46])) _
      refine XS.isub X115.here hx rfl (hb hby at_268) rfl ?_
      show Steps _ _ _ (T115.setTop (mkF m 269 #[vJ q1, .second, vI p2, vJ q3, .second, vI p4, vR b1, vI fv, vI tv, vI kv, vI v43, vI v46, vI 2, vR b97, vR b110, .unset] [iI (v46 - v43)])) _
      refine XS.iload X115.here hx rfl (hb hby at_269) rfl ?_
      show Steps _ _ _ (T115.setTop (mkF m 271 #[vJ q1, .second, vI p2, vJ q3, .second, vI p4, vR b1, vI fv, vI tv, vI kv, vI v43, vI v46, vI 2, vR b97, vR b110, .unset] [iI 2, iI (v46 - v43)])) _
      refine st118 _ ?_
      show Steps _ _ _ (T118.setTop (mkF m 337 #[vJ q1, .second, vI p2, vJ q3, .second, vI p4, vR b1, vI fv, vI tv, vI kv, vI v43, vI v46, vI 2, vR b97, vR b110, .unset] [iI v117])) _
      refine XS.istore X118.here hx rfl (hb hby at_337) rfl (l' := #[vJ q1, .second, vI p2, vJ q3, .second, vI p4, vR b1, vI fv, vI tv, vI kv, vI v43, vI v46, vI 2, vR b97, vR b110, vI v117]) rfl ?_
      show Steps _ _ _ (T118.setTop (mkF m 339 #[vJ q1, .second, vI p2, vJ q3, .second, vI p4, vR b1, vI fv, vI tv, vI kv, vI v43, vI v46, vI 2, vR b97, vR b110, vI v117] [])) _
      refine XS.aload X118.here hx rfl (hb hby at_339) rfl rfl ?_
      show Steps _ _ _ (T118.setTop (mkF m 341 #[vJ q1, .second, vI p2, vJ q3, .second, vI p4, vR b1, vI fv, vI tv, vI kv, vI v43, vI v46, vI 2, vR b97, vR b110, vI v117] [iR b110])) _
      refine XS.iload X118.here hx rfl (hb hby at_341) rfl ?_
      show Steps _ _ _ (T118.setTop (mkF m 343 #[vJ q1, .second, vI p2, vJ q3, .second, vI p4, vR b1, vI fv, vI tv, vI kv, vI v43, vI v46, vI 2, vR b97, vR b110, vI v117] [iI kv, iR b110])) _
      refine XS.aload X118.here hx rfl (hb hby at_343) rfl rfl ?_
      show Steps _ _ _ (T118.setTop (mkF m 345 #[vJ q1, .second, vI p2, vJ q3, .second, vI p4, vR b1, vI fv, vI tv, vI kv, vI v43, vI v46, vI 2, vR b97, vR b110, vI v117] [iR b97, iI kv, iR b110])) _
      refine st136.trans ?_
      show Steps _ _ _ (T136.setTop (mkF m 348 #[vJ q1, .second, vI p2, vJ q3, .second, vI p4, vR b1, vI fv, vI tv, vI kv, vI v43, vI v46, vI 2, vR b97, vR b110, vI v117] [iI (own_is_2 kv fv tv (nar .byte nb0) (nar .byte nb1) (nar .byte nb2) (nar .byte v17) (nar .byte nb4) (nar .byte nb5) (nar .byte nb6) (nar .byte nbt0) (nar .byte nbt1))])) _
      refine XS.iload X136.here hx rfl (hb hby at_348) rfl ?_
      show Steps _ _ _ (T136.setTop (mkF m 350 #[vJ q1, .second, vI p2, vJ q3, .second, vI p4, vR b1, vI fv, vI tv, vI kv, vI v43, vI v46, vI 2, vR b97, vR b110, vI v117] [iI v117, iI (own_is_2 kv fv tv (nar .byte nb0) (nar .byte nb1) (nar .byte nb2) (nar .byte v17) (nar .byte nb4) (nar .byte nb5) (nar .byte nb6) (nar .byte nbt0) (nar .byte nbt1))])) _
      refine XS.icmpNo X136.here hx rfl (hb hby at_350) rfl (teq hh139).2 ?_
      show Steps _ _ _ (T136.setTop (mkF m 353 #[vJ q1, .second, vI p2, vJ q3, .second, vI p4, vR b1, vI fv, vI tv, vI kv, vI v43, vI v46, vI 2, vR b97, vR b110, vI v117] [])) _
      refine XS.iconst X136.here hx rfl (hb hby at_353) ?_
      show Steps _ _ _ (T136.setTop (mkF m 354 #[vJ q1, .second, vI p2, vJ q3, .second, vI p4, vR b1, vI fv, vI tv, vI kv, vI v43, vI v46, vI 2, vR b97, vR b110, vI v117] [iI 1])) _
      refine XS.goto X136.here hx rfl (pc0 := 354) (pc' := 358) rfl (hb hby at_354) (by decide) (by decide) ?_
      show Steps _ _ _ (T136.setTop (mkF m 358 #[vJ q1, .second, vI p2, vJ q3, .second, vI p4, vR b1, vI fv, vI tv, vI kv, vI v43, vI v46, vI 2, vR b97, vR b110, vI v117] [iI 1])) _
      exact retN X136 hx (t := .boolean) Bd.returns (by simp) (hb hby at_358) hr
    · show Q0 Z q1 p2 q3 p4 h0 n0 _ T136.heap _
      rw [e136]
      exact ⟨rfl, N115⟩
  · obtain ⟨T140, h140, k140, X140, e140, E140, A140, st140⟩ := newP X47 hx hZ (hw _ (List.mem_of_getElem? (i := 0) rfl)) e47 (g := (mkF m 178 #[vJ q1, .second, vI p2, vJ q3, .second, vI p4, vR b1, vI fv, vI tv, vI kv, vI v43, vI v46, vI 3, .unset, .unset, .unset] [iI 3])) rfl (hb hby at_178) rfl (by decide) (cap := 3) (by decide) (by decide) (by decide) (by decide)
    obtain ⟨b140, g140⟩ : ∃ z, z = h37.size := ⟨_, rfl⟩
    rw [← g140] at A140 st140
    have ne_b1_b140 : b1 ≠ b140 := Nat.ne_of_lt (Nat.lt_of_lt_of_le V37.lt (Nat.le_of_eq g140.symm))
    have sz_b140 : h0.size ≤ b140 := Nat.le_trans K37.1 (Nat.le_of_eq g140.symm)
    have g_b140 : n0 ≤ b140 := Nat.le_trans Z0 sz_b140
    have K140 : Keep h0 h140 [] := K37.ext E140
    have V140 : Arv Z h140 b140 k140 .byte (3 : Int32) [(.int (0 : Int32)), (.int (0 : Int32)), (.int (0 : Int32))] (.int (0 : Int32)) := (Arv.new A140 (by decide)).pad (pad_rep [] (.int (0 : Int32)) 3)
    have fk142 := (V37.ext E140)
    obtain ⟨_, _, ⟨T141, L141, k141, n141⟩, -, X141, ⟨Lc141, hQ141, l141, y141, z141⟩, st141⟩ := Jvm.LawKit.callS X140 hx (y := (⟨"com/example/tidemine/tidemine/TokensIsPinLaw", "pick", "([BIJII)B"⟩ : MethodName)) hown (mvT hZ (hw _ (List.mem_of_getElem? (i := 41) rfl))) (mvT hZ (hw _ (List.mem_of_getElem? (i := 42) rfl))) (mvT hZ (hw _ (List.mem_of_getElem? (i := 3) rfl))) (mvT hZ (hw _ (List.mem_of_getElem? (i := 43) rfl))) (by decide) (backOf (W := 2) (rm8_0 l Z a0 hw [] b1 v43 q3 p4 k1 (nar .byte nb0) (nar .byte nb1) (nar .byte nb2) (nar .byte v17) (nar .byte nb4) (nar .byte nb5) (nar .byte nb6) h140 fk142 q10) hZ (hw _ (List.mem_of_getElem? (i := 43) rfl)) (hw _ (List.mem_of_getElem? (i := 3) rfl)) (by decide) (by decide)) (g := (mkF m 198 #[vJ q1, .second, vI p2, vJ q3, .second, vI p4, vR b1, vI fv, vI tv, vI kv, vI v43, vI v46, vI 3, vR b140, .unset, .unset] [iI p4, iI 0, iJ q3, iI v43, iR b1, iI 0, iR b140])) rfl (by rw [hml]; rfl) (argsL := [(.ref b1), (.int v43), (.long q3), (.int (0 : Int32)), (.int p4)]) (rest := [(.int (0 : Int32)), (.ref b140)]) (lenOf pd_6 rfl) rfl (by show 2 * 0 + _ ≤ _; exact Nat.le_of_eq rfl) (hb hby at_198) (fun _ _ => ⟨rfl, e140, (by decide : 2 + 0 ≤ _), (by decide : 10 + 0 ≤ _)⟩)
    dsimp only [Pt.U, Pt.locs, Pt.cells, Pt.slots] at X141 l141 y141 z141 st141 hQ141
    subst l141 y141 z141
    obtain ⟨rfl, rfl, e141⟩ := hQ141
    try rw [List.append_nil] at X141
    obtain ⟨nbt0, hnbt0⟩ : ∃ z : Int32, z = (own_pk_0 v43 q3 p4 (nar .byte nb0) (nar .byte nb1) (nar .byte nb2) (nar .byte v17) (nar .byte nb4) (nar .byte nb5) (nar .byte nb6)) := ⟨_, rfl⟩
    obtain ⟨cl144, Ar144, q144, S144, M144, H144, G144⟩ := id V140
    have hin145 : ¬ ((0 : Int32) < 0 ∨ cl144.slots.size ≤ ((0 : Int32)).toNatClampNeg) := inb_of S144 ⟨by decide, by decide⟩
    obtain ⟨T146, h146, X146, e146, W146, st146⟩ := stB X141 hx hZ e141 Ar144 (j := (0 : Int32)) hin145 (g := (mkF m 201 #[vJ q1, .second, vI p2, vJ q3, .second, vI p4, vR b1, vI fv, vI tv, vI kv, vI v43, vI v46, vI 3, vR b140, .unset, .unset] [iI nbt0, iI 0, iR b140])) rfl rfl (hb hby at_201)
    have V146 : Arv Z h146 b140 k140 .byte (3 : Int32) [(.int (nar .byte nbt0)), (.int (0 : Int32)), (.int (0 : Int32))] (.int (0 : Int32)) := Arv.set Ar144 q144 S144 M144 H144 G144 (fits_nar_byte _) W146 0 rfl (Nat.le_of_ble_eq_true rfl)
    have K146 : Keep h0 h146 [] := K140.wr W146 (Or.inr sz_b140)
    have N146 := Fr.snoc X146 N37 g_b140
    have fk148 := (fk142.other W146 ne_b1_b140)
    obtain ⟨_, _, ⟨T147, L147, k147, n147⟩, -, X147, ⟨Lc147, hQ147, l147, y147, z147⟩, st147⟩ := Jvm.LawKit.callS X146 hx (y := (⟨"com/example/tidemine/tidemine/TokensIsPinLaw", "pick", "([BIJII)B"⟩ : MethodName)) hown (mvT hZ (hw _ (List.mem_of_getElem? (i := 41) rfl))) (mvT hZ (hw _ (List.mem_of_getElem? (i := 42) rfl))) (mvT hZ (hw _ (List.mem_of_getElem? (i := 3) rfl))) (mvT hZ (hw _ (List.mem_of_getElem? (i := 43) rfl))) (by decide) (backOf (W := 2) (rm8_1 l Z a0 hw [] b1 v43 q3 p4 k1 (nar .byte nb0) (nar .byte nb1) (nar .byte nb2) (nar .byte v17) (nar .byte nb4) (nar .byte nb5) (nar .byte nb6) h146 fk148 q10) hZ (hw _ (List.mem_of_getElem? (i := 43) rfl)) (hw _ (List.mem_of_getElem? (i := 3) rfl)) (by decide) (by decide)) (g := (mkF m 219 #[vJ q1, .second, vI p2, vJ q3, .second, vI p4, vR b1, vI fv, vI tv, vI kv, vI v43, vI v46, vI 3, vR b140, .unset, .unset] [iI p4, iI 1, iJ q3, iI v43, iR b1, iI 1, iR b140])) rfl (by rw [hml]; rfl) (argsL := [(.ref b1), (.int v43), (.long q3), (.int (1 : Int32)), (.int p4)]) (rest := [(.int (1 : Int32)), (.ref b140)]) (lenOf pd_6 rfl) rfl (by show 2 * 0 + _ ≤ _; exact Nat.le_of_eq rfl) (hb hby at_219) (fun _ _ => ⟨rfl, e146, (by decide : 2 + 0 ≤ _), (by decide : 10 + 0 ≤ _)⟩)
    dsimp only [Pt.U, Pt.locs, Pt.cells, Pt.slots] at X147 l147 y147 z147 st147 hQ147
    subst l147 y147 z147
    obtain ⟨rfl, rfl, e147⟩ := hQ147
    try rw [List.append_nil] at X147
    obtain ⟨nbt1, hnbt1⟩ : ∃ z : Int32, z = (own_pk_1 v43 q3 p4 (nar .byte nb0) (nar .byte nb1) (nar .byte nb2) (nar .byte v17) (nar .byte nb4) (nar .byte nb5) (nar .byte nb6)) := ⟨_, rfl⟩
    obtain ⟨cl150, Ar150, q150, S150, M150, H150, G150⟩ := id V146
    have hin151 : ¬ ((1 : Int32) < 0 ∨ cl150.slots.size ≤ ((1 : Int32)).toNatClampNeg) := inb_of S150 ⟨by decide, by decide⟩
    obtain ⟨T152, h152, X152, e152, W152, st152⟩ := stB X147 hx hZ e147 Ar150 (j := (1 : Int32)) hin151 (g := (mkF m 222 #[vJ q1, .second, vI p2, vJ q3, .second, vI p4, vR b1, vI fv, vI tv, vI kv, vI v43, vI v46, vI 3, vR b140, .unset, .unset] [iI nbt1, iI 1, iR b140])) rfl rfl (hb hby at_222)
    have V152 : Arv Z h152 b140 k140 .byte (3 : Int32) [(.int (nar .byte nbt0)), (.int (nar .byte nbt1)), (.int (0 : Int32))] (.int (0 : Int32)) := Arv.set Ar150 q150 S150 M150 H150 G150 (fits_nar_byte _) W152 1 rfl (Nat.le_of_ble_eq_true rfl)
    have K152 : Keep h0 h152 [] := K146.wr W152 (Or.inr sz_b140)
    have N152 := Fr.snoc X152 N146 g_b140
    have fk154 := (fk148.other W152 ne_b1_b140)
    obtain ⟨_, _, ⟨T153, L153, k153, n153⟩, -, X153, ⟨Lc153, hQ153, l153, y153, z153⟩, st153⟩ := Jvm.LawKit.callS X152 hx (y := (⟨"com/example/tidemine/tidemine/TokensIsPinLaw", "pick", "([BIJII)B"⟩ : MethodName)) hown (mvT hZ (hw _ (List.mem_of_getElem? (i := 41) rfl))) (mvT hZ (hw _ (List.mem_of_getElem? (i := 42) rfl))) (mvT hZ (hw _ (List.mem_of_getElem? (i := 3) rfl))) (mvT hZ (hw _ (List.mem_of_getElem? (i := 43) rfl))) (by decide) (backOf (W := 2) (rm8_2 l Z a0 hw [] b1 v43 q3 p4 k1 (nar .byte nb0) (nar .byte nb1) (nar .byte nb2) (nar .byte v17) (nar .byte nb4) (nar .byte nb5) (nar .byte nb6) h152 fk154 q10) hZ (hw _ (List.mem_of_getElem? (i := 43) rfl)) (hw _ (List.mem_of_getElem? (i := 3) rfl)) (by decide) (by decide)) (g := (mkF m 240 #[vJ q1, .second, vI p2, vJ q3, .second, vI p4, vR b1, vI fv, vI tv, vI kv, vI v43, vI v46, vI 3, vR b140, .unset, .unset] [iI p4, iI 2, iJ q3, iI v43, iR b1, iI 2, iR b140])) rfl (by rw [hml]; rfl) (argsL := [(.ref b1), (.int v43), (.long q3), (.int (2 : Int32)), (.int p4)]) (rest := [(.int (2 : Int32)), (.ref b140)]) (lenOf pd_6 rfl) rfl (by show 2 * 0 + _ ≤ _; exact Nat.le_of_eq rfl) (hb hby at_240) (fun _ _ => ⟨rfl, e152, (by decide : 2 + 0 ≤ _), (by decide : 10 + 0 ≤ _)⟩)
    dsimp only [Pt.U, Pt.locs, Pt.cells, Pt.slots] at X153 l153 y153 z153 st153 hQ153
    subst l153 y153 z153
    obtain ⟨rfl, rfl, e153⟩ := hQ153
    try rw [List.append_nil] at X153
    obtain ⟨nbt2, hnbt2⟩ : ∃ z : Int32, z = (own_pk_2 v43 q3 p4 (nar .byte nb0) (nar .byte nb1) (nar .byte nb2) (nar .byte v17) (nar .byte nb4) (nar .byte nb5) (nar .byte nb6)) := ⟨_, rfl⟩
    obtain ⟨cl156, Ar156, q156, S156, M156, H156, G156⟩ := id V152
    have hin157 : ¬ ((2 : Int32) < 0 ∨ cl156.slots.size ≤ ((2 : Int32)).toNatClampNeg) := inb_of S156 ⟨by decide, by decide⟩
    obtain ⟨T158, h158, X158, e158, W158, st158⟩ := stB X153 hx hZ e153 Ar156 (j := (2 : Int32)) hin157 (g := (mkF m 243 #[vJ q1, .second, vI p2, vJ q3, .second, vI p4, vR b1, vI fv, vI tv, vI kv, vI v43, vI v46, vI 3, vR b140, .unset, .unset] [iI nbt2, iI 2, iR b140])) rfl rfl (hb hby at_243)
    have V158 : Arv Z h158 b140 k140 .byte (3 : Int32) [(.int (nar .byte nbt0)), (.int (nar .byte nbt1)), (.int (nar .byte nbt2))] (.int (0 : Int32)) := Arv.set Ar156 q156 S156 M156 H156 G156 (fits_nar_byte _) W158 2 rfl (Nat.le_of_ble_eq_true rfl)
    have K158 : Keep h0 h158 [] := K152.wr W158 (Or.inr sz_b140)
    have N158 := Fr.snoc X158 N152 g_b140
    obtain ⟨T159, h159, X159, e159, E159, A159, D159, -, st159⟩ := newO X158 hx hZ hown (hw _ (List.mem_of_getElem? (i := 9) rfl)) (hw _ (List.mem_of_getElem? (i := 10) rfl)) (hw _ (List.mem_of_getElem? (i := 11) rfl)) e158 (g := (mkF m 244 #[vJ q1, .second, vI p2, vJ q3, .second, vI p4, vR b1, vI fv, vI tv, vI kv, vI v43, vI v46, vI 3, vR b140, .unset, .unset] [])) rfl (hb hby at_244) (by decide) (by decide)
    obtain ⟨b159, g159⟩ : ∃ z, z = h158.size := ⟨_, rfl⟩
    rw [← g159] at A159 D159 st159
    have fk160 := (fk154.other W158 ne_b1_b140)
    have ne_b1_b159 : b1 ≠ b159 := Nat.ne_of_lt (Nat.lt_of_lt_of_le fk160.lt (Nat.le_of_eq g159.symm))
    have ne_b140_b159 : b140 ≠ b159 := Nat.ne_of_lt (Nat.lt_of_lt_of_le V158.lt (Nat.le_of_eq g159.symm))
    have sz_b159 : h0.size ≤ b159 := Nat.le_trans K158.1 (Nat.le_of_eq g159.symm)
    have g_b159 : n0 ≤ b159 := Nat.le_trans Z0 sz_b159
    have K159 : Keep h0 h159 [] := K158.ext E159
    have F_starts_b159 : Fld Z h159 b159 "com/example/tidemine/tidemine/TextFormat$Tokens" "starts" "[I" .null := D159 (Or.inl (hw _ (List.mem_of_getElem? (i := 20) rfl))) (ty := (.array .int)) (by decide)
    have F_ends_b159 : Fld Z h159 b159 "com/example/tidemine/tidemine/TextFormat$Tokens" "ends" "[I" .null := D159 (Or.inl (hw _ (List.mem_of_getElem? (i := 22) rfl))) (ty := (.array .int)) (by decide)
    have F_line_b159 : Fld Z h159 b159 "com/example/tidemine/tidemine/TextFormat$Tokens" "line" "[B" .null := D159 (Or.inl (hw _ (List.mem_of_getElem? (i := 29) rfl))) (ty := (.array .byte)) (by decide)
    have F_count_b159 : Fld Z h159 b159 "com/example/tidemine/tidemine/TextFormat$Tokens" "count" "I" (.int (0 : Int32)) := D159 (Or.inl (hw _ (List.mem_of_getElem? (i := 31) rfl))) (ty := .int) (by decide)
    obtain ⟨_, _, ⟨T161, L161, k161, n161⟩, -, X161, ⟨Lc161, hQ161, l161, y161, z161⟩, st161⟩ := X159.specialBack hx (y := (⟨"com/example/tidemine/tidemine/TextFormat$Tokens", "<init>", "()V"⟩ : MethodName)) rfl hown (mvT hZ (hw _ (List.mem_of_getElem? (i := 12) rfl))) (mvT hZ (hw _ (List.mem_of_getElem? (i := 13) rfl))) (mvT hZ (hw _ (List.mem_of_getElem? (i := 14) rfl))) (by decide) (backOf (W := 1) (rm3 l Z a0 hw [] b159 h159 n0 (Nat.le_trans Z0 K159.1) A159 g_b159 F_line_b159 F_starts_b159 F_ends_b159 F_count_b159) hZ (hw _ (List.mem_of_getElem? (i := 14) rfl)) (hw _ (List.mem_of_getElem? (i := 11) rfl)) (by decide) (by decide)) (g := (mkF m 248 #[vJ q1, .second, vI p2, vJ q3, .second, vI p4, vR b1, vI fv, vI tv, vI kv, vI v43, vI v46, vI 3, vR b140, .unset, .unset] [iR b159, iR b159])) rfl (by rw [hml]; rfl) (Steps.refl _) (a := b159) (argsL := []) (rest := [(.ref b159)]) (lenOf pd_3 rfl) rfl (by show 2 * 0 + _ ≤ _; exact Nat.le_of_eq rfl) (hb hby at_248) (fun _ _ => ⟨rfl, e159, (by decide : 3 + 2 ≤ _), (by decide : 14 + 32 ≤ _)⟩)
    dsimp only [Pt.U, Pt.locs, Pt.cells, Pt.slots] at X161 l161 y161 z161 st161 hQ161
    subst l161 y161 z161
    obtain ⟨s1, s2, kt1, kt2, rfl, N161q, K161q, E161q, Fl161q, Fs161q, Fe161q, Fc161q, V1161q, V2161q, z_s1, z_s2, ne_s1_s2⟩ := hQ161
    have fk162 := (fk160.ext E159)
    have fk163 := (V158.ext E159)
    have ne_b1_s1 : b1 ≠ s1 := Nat.ne_of_lt (Nat.lt_of_lt_of_le fk162.lt z_s1)
    have ne_b140_s1 : b140 ≠ s1 := Nat.ne_of_lt (Nat.lt_of_lt_of_le fk163.lt z_s1)
    have ne_b159_s1 : b159 ≠ s1 := Nat.ne_of_lt (Nat.lt_of_lt_of_le A159.lt z_s1)
    have sz_s1 : h0.size ≤ s1 := Nat.le_trans K159.1 z_s1
    have g_s1 : n0 ≤ s1 := Nat.le_trans Z0 sz_s1
    have ne_b1_s2 : b1 ≠ s2 := Nat.ne_of_lt (Nat.lt_of_lt_of_le fk162.lt z_s2)
    have ne_b140_s2 : b140 ≠ s2 := Nat.ne_of_lt (Nat.lt_of_lt_of_le fk163.lt z_s2)
    have ne_b159_s2 : b159 ≠ s2 := Nat.ne_of_lt (Nat.lt_of_lt_of_le A159.lt z_s2)
    have sz_s2 : h0.size ≤ s2 := Nat.le_trans K159.1 z_s2
    have g_s2 : n0 ≤ s2 := Nat.le_trans Z0 sz_s2
    have N161 := Fr.app N158 N161q
    have K161 : Keep h0 T161.heap [] := Keep.trans K159 K161q (allS (Or.inr sz_b159) all0)
    have fk165 := (fk162.keep K161q (ninS ne_b1_b159 nin0))
    obtain ⟨cq164, kq164, q164a, q164b, q164c⟩ := isOf hZ rfl E161q
    obtain ⟨_, _, ⟨T164, L164, k164, n164⟩, -, X164, ⟨Lc164, hQ164, l164, y164, z164⟩, st164⟩ := X161.virtualBack hx (y := (⟨"com/example/tidemine/tidemine/TextFormat$Tokens", "split", "([BII)V"⟩ : MethodName)) (z := (⟨"com/example/tidemine/tidemine/TextFormat$Tokens", "split", "([BII)V"⟩ : MethodName)) hown (mvT hZ (hw _ (List.mem_of_getElem? (i := 23) rfl))) (mvT hZ (hw _ (List.mem_of_getElem? (i := 24) rfl))) (notFace_of_selects (args := #[]) (mvT hZ (hw _ (List.mem_of_getElem? (i := 26) rfl)))) (mvT hZ (hw _ (List.mem_of_getElem? (i := 26) rfl))) (mvT hZ (hw _ (List.mem_of_getElem? (i := 25) rfl))) (by decide) (backOf (W := 0) (rm5 l Z a0 hw [] b159 b1 fv tv s1 s2 kt1 kt2 k1 (nar .byte nb0) (nar .byte nb1) (nar .byte nb2) (nar .byte v17) (nar .byte nb4) (nar .byte nb5) (nar .byte nb6) T161.heap n0 (Nat.le_trans Z0 K161.1) E161q g_b159 g_s1 g_s2 Fl161q Fs161q Fe161q Fc161q V1161q V2161q fk165 (Ne.symm ne_b1_b159) ne_b159_s1 ne_b159_s2 ne_b1_s1 ne_b1_s2 ne_s1_s2 hx0 hx1 hx2 hx3 hx4 hx5 hx6 qfv qtv) hZ (hw _ (List.mem_of_getElem? (i := 27) rfl)) (hw _ (List.mem_of_getElem? (i := 11) rfl)) (by decide) (by decide)) q164a q164c (g := (mkF m 261 #[vJ q1, .second, vI p2, vJ q3, .second, vI p4, vR b1, vI fv, vI tv, vI kv, vI v43, vI v46, vI 3, vR b140, vR b159, .unset] [iI tv, iI fv, iR b1, iR b159])) rfl (by rw [hml]; rfl) (Steps.refl _) (argsL := [(.ref b1), (.int fv), (.int tv)]) (rest := []) (lenOf pd_4 rfl) rfl (by show 2 * 0 + _ ≤ _; exact Nat.le_of_eq rfl) (hb hby at_261) (fun _ _ => ⟨rfl, rfl, (by decide : 5 + 0 ≤ _), (by decide : 46 + 0 ≤ _)⟩)
    dsimp only [Pt.U, Pt.locs, Pt.cells, Pt.slots] at X164 l164 y164 z164 st164 hQ164
    subst l164 y164 z164
    obtain ⟨rfl, N164q, K164q, E164q, Fl164q, Fs164q, Fe164q, V1164q, V2164q⟩ := hQ164
    have N164 := Fr.app N161 N164q
    have K164 : Keep h0 T164.heap [] := Keep.trans K161 K164q (allS (Or.inr sz_b159) (allS (Or.inr sz_s1) (allS (Or.inr sz_s2) all0)))
    obtain ⟨v166, hv166⟩ : ∃ z : Int32, z = (if (v46 - v43) = (3 : Int32) then (if (nar .byte nbt0) = (own_at (nar .byte nb0) (nar .byte nb1) (nar .byte nb2) (nar .byte v17) (nar .byte nb4) (nar .byte nb5) (nar .byte nb6) v43) then (if (nar .byte nbt1) = (own_at (nar .byte nb0) (nar .byte nb1) (nar .byte nb2) (nar .byte v17) (nar .byte nb4) (nar .byte nb5) (nar .byte nb6) (v43 + (1 : Int32))) then (if (nar .byte nbt2) = (own_at (nar .byte nb0) (nar .byte nb1) (nar .byte nb2) (nar .byte v17) (nar .byte nb4) (nar .byte nb5) (nar .byte nb6) (v43 + (2 : Int32))) then (1 : Int32) else (0 : Int32)) else (0 : Int32)) else (0 : Int32)) else (0 : Int32)) := ⟨_, rfl⟩
    obtain ⟨T167, X167, e167, st167⟩ : own_Mid X164 T164.heap (mkF m 271 #[vJ q1, .second, vI p2, vJ q3, .second, vI p4, vR b1, vI fv, vI tv, vI kv, vI v43, vI v46, vI 3, vR b140, vR b159, .unset] [iI 3, iI (v46 - v43)]) (mkF m 337 #[vJ q1, .second, vI p2, vJ q3, .second, vI p4, vR b1, vI fv, vI tv, vI kv, vI v43, vI v46, vI 3, vR b140, vR b159, .unset] [iI v166]) := by
      by_cases hc168 : (v46 - v43) = (3 : Int32)
      · have fk169 := ((fk163.keep K161q (ninS ne_b140_b159 nin0)).keep K164q (ninS ne_b140_b159 (ninS ne_b140_s1 (ninS ne_b140_s2 nin0))))
        obtain ⟨cl170, Ar170, q170, S170, M170, H170, G170⟩ := id fk169
        have hin171 : ¬ ((0 : Int32) < 0 ∨ cl170.slots.size ≤ ((0 : Int32)).toNatClampNeg) := inb_of S170 ⟨by decide, by decide⟩
        have hat172 : cl170.slots[((0 : Int32)).toNatClampNeg]? = some (.int (nar .byte nbt0)) := Has.at H170 hin171 rfl
        have fk173 := (fk165.keep K164q (ninS ne_b1_b159 (ninS ne_b1_s1 (ninS ne_b1_s2 nin0))))
        obtain ⟨cl174, Ar174, q174, S174, M174, H174, G174⟩ := id fk173
        have hin175 : ¬ (v43 < 0 ∨ cl174.slots.size ≤ (v43).toNatClampNeg) := inb_of S174 (own_in7 q10)
        have hat176 : cl174.slots[(v43).toNatClampNeg]? = some (.int (own_at (nar .byte nb0) (nar .byte nb1) (nar .byte nb2) (nar .byte v17) (nar .byte nb4) (nar .byte nb5) (nar .byte nb6) v43)) := Has.at H174 hin175 (own_atL (own_in7 q10))
        have pre178 : ∀ t, Steps p.tables e below (T164.setTop (mkF m 289 #[vJ q1, .second, vI p2, vJ q3, .second, vI p4, vR b1, vI fv, vI tv, vI kv, vI v43, vI v46, vI 3, vR b140, vR b159, .unset] [iI (own_at (nar .byte nb0) (nar .byte nb1) (nar .byte nb2) (nar .byte v17) (nar .byte nb4) (nar .byte nb5) (nar .byte nb6) v43), iI (nar .byte nbt0)])) t → Steps p.tables e below (T164.setTop (mkF m 271 #[vJ q1, .second, vI p2, vJ q3, .second, vI p4, vR b1, vI fv, vI tv, vI kv, vI v43, vI v46, vI 3, vR b140, vR b159, .unset] [iI 3, iI (v46 - v43)])) t := by
          intro t kt
          show Steps _ _ _ (T164.setTop (mkF m 271 #[vJ q1, .second, vI p2, vJ q3, .second, vI p4, vR b1, vI fv, vI tv, vI kv, vI v43, vI v46, vI 3, vR b140, vR b159, .unset] [iI 3, iI (v46 - v43)])) _
          refine XS.icmpNo X164.here hx rfl (hb hby at_271) rfl (teq hc168).2 ?_
          show Steps _ _ _ (T164.setTop (mkF m 274 #[vJ q1, .second, vI p2, vJ q3, .second, vI p4, vR b1, vI fv, vI tv, vI kv, vI v43, vI v46, vI 3, vR b140, vR b159, .unset] [])) _
          refine XS.iload X164.here hx rfl (hb hby at_274) rfl ?_
          show Steps _ _ _ (T164.setTop (mkF m 276 #[vJ q1, .second, vI p2, vJ q3, .second, vI p4, vR b1, vI fv, vI tv, vI kv, vI v43, vI v46, vI 3, vR b140, vR b159, .unset] [iI 3])) _
          refine XS.iconst X164.here hx rfl (hb hby at_276) ?_
          show Steps _ _ _ (T164.setTop (mkF m 277 #[vJ q1, .second, vI p2, vJ q3, .second, vI p4, vR b1, vI fv, vI tv, vI kv, vI v43, vI v46, vI 3, vR b140, vR b159, .unset] [iI 1, iI 3])) _
          refine XS.icmpNo X164.here hx rfl (hb hby at_277) rfl (flt (by decide : ¬ ((3 : Int32) < (1 : Int32)))).1 ?_
          show Steps _ _ _ (T164.setTop (mkF m 280 #[vJ q1, .second, vI p2, vJ q3, .second, vI p4, vR b1, vI fv, vI tv, vI kv, vI v43, vI v46, vI 3, vR b140, vR b159, .unset] [])) _
          refine XS.aload X164.here hx rfl (hb hby at_280) rfl rfl ?_
          show Steps _ _ _ (T164.setTop (mkF m 282 #[vJ q1, .second, vI p2, vJ q3, .second, vI p4, vR b1, vI fv, vI tv, vI kv, vI v43, vI v46, vI 3, vR b140, vR b159, .unset] [iR b140])) _
          refine XS.iconst X164.here hx rfl (hb hby at_282) ?_
          show Steps _ _ _ (T164.setTop (mkF m 283 #[vJ q1, .second, vI p2, vJ q3, .second, vI p4, vR b1, vI fv, vI tv, vI kv, vI v43, vI v46, vI 3, vR b140, vR b159, .unset] [iI 0, iR b140])) _
          refine X164.baloadBytes hx (j := (0 : Int32)) (v := (.int (nar .byte nbt0))) Ar170.1 (State.isArrayOf_alike hZ.alike Ar170.2.1) Ar170.2.2 hin171 hat172 (g := (mkF m 283 #[vJ q1, .second, vI p2, vJ q3, .second, vI p4, vR b1, vI fv, vI tv, vI kv, vI v43, vI v46, vI 3, vR b140, vR b159, .unset] [iI 0, iR b140])) rfl rfl (hb hby at_283) _ ?_
          show Steps _ _ _ (T164.setTop (mkF m 284 #[vJ q1, .second, vI p2, vJ q3, .second, vI p4, vR b1, vI fv, vI tv, vI kv, vI v43, vI v46, vI 3, vR b140, vR b159, .unset] [iI (nar .byte nbt0)])) _
          refine XS.aload X164.here hx rfl (hb hby at_284) rfl rfl ?_
          show Steps _ _ _ (T164.setTop (mkF m 286 #[vJ q1, .second, vI p2, vJ q3, .second, vI p4, vR b1, vI fv, vI tv, vI kv, vI v43, vI v46, vI 3, vR b140, vR b159, .unset] [iR b1, iI (nar .byte nbt0)])) _
          refine XS.iload X164.here hx rfl (hb hby at_286) rfl ?_
          show Steps _ _ _ (T164.setTop (mkF m 288 #[vJ q1, .second, vI p2, vJ q3, .second, vI p4, vR b1, vI fv, vI tv, vI kv, vI v43, vI v46, vI 3, vR b140, vR b159, .unset] [iI v43, iR b1, iI (nar .byte nbt0)])) _
          refine X164.baloadBytes hx (j := v43) (v := (.int (own_at (nar .byte nb0) (nar .byte nb1) (nar .byte nb2) (nar .byte v17) (nar .byte nb4) (nar .byte nb5) (nar .byte nb6) v43))) Ar174.1 (State.isArrayOf_alike hZ.alike Ar174.2.1) Ar174.2.2 hin175 hat176 (g := (mkF m 288 #[vJ q1, .second, vI p2, vJ q3, .second, vI p4, vR b1, vI fv, vI tv, vI kv, vI v43, vI v46, vI 3, vR b140, vR b159, .unset] [iI v43, iR b1, iI (nar .byte nbt0)])) rfl rfl (hb hby at_288) _ ?_
          exact kt
        by_cases hc177 : (nar .byte nbt0) = (own_at (nar .byte nb0) (nar .byte nb1) (nar .byte nb2) (nar .byte v17) (nar .byte nb4) (nar .byte nb5) (nar .byte nb6) v43)
        · have hin179 : ¬ ((1 : Int32) < 0 ∨ cl170.slots.size ≤ ((1 : Int32)).toNatClampNeg) := inb_of S170 ⟨by decide, by decide⟩
          have hat180 : cl170.slots[((1 : Int32)).toNatClampNeg]? = some (.int (nar .byte nbt1)) := Has.at H170 hin179 rfl
          have hin181 : ¬ ((v43 + (1 : Int32)) < 0 ∨ cl174.slots.size ≤ ((v43 + (1 : Int32))).toNatClampNeg) := inb_of S174 (own_pin1 q10)
          have hat182 : cl174.slots[((v43 + (1 : Int32))).toNatClampNeg]? = some (.int (own_at (nar .byte nb0) (nar .byte nb1) (nar .byte nb2) (nar .byte v17) (nar .byte nb4) (nar .byte nb5) (nar .byte nb6) (v43 + (1 : Int32)))) := Has.at H174 hin181 (own_atL (own_pin1 q10))
          have pre184 : ∀ t, Steps p.tables e below (T164.setTop (mkF m 309 #[vJ q1, .second, vI p2, vJ q3, .second, vI p4, vR b1, vI fv, vI tv, vI kv, vI v43, vI v46, vI 3, vR b140, vR b159, .unset] [iI (own_at (nar .byte nb0) (nar .byte nb1) (nar .byte nb2) (nar .byte v17) (nar .byte nb4) (nar .byte nb5) (nar .byte nb6) (v43 + (1 : Int32))), iI (nar .byte nbt1)])) t → Steps p.tables e below (T164.setTop (mkF m 271 #[vJ q1, .second, vI p2, vJ q3, .second, vI p4, vR b1, vI fv, vI tv, vI kv, vI v43, vI v46, vI 3, vR b140, vR b159, .unset] [iI 3, iI (v46 - v43)])) t := by
            intro t kt
            refine pre178 t ?_
            show Steps _ _ _ (T164.setTop (mkF m 289 #[vJ q1, .second, vI p2, vJ q3, .second, vI p4, vR b1, vI fv, vI tv, vI kv, vI v43, vI v46, vI 3, vR b140, vR b159, .unset] [iI (own_at (nar .byte nb0) (nar .byte nb1) (nar .byte nb2) (nar .byte v17) (nar .byte nb4) (nar .byte nb5) (nar .byte nb6) v43), iI (nar .byte nbt0)])) _
            refine XS.icmpNo X164.here hx rfl (hb hby at_289) rfl (teq hc177).2 ?_
            show Steps _ _ _ (T164.setTop (mkF m 292 #[vJ q1, .second, vI p2, vJ q3, .second, vI p4, vR b1, vI fv, vI tv, vI kv, vI v43, vI v46, vI 3, vR b140, vR b159, .unset] [])) _
            refine XS.iload X164.here hx rfl (hb hby at_292) rfl ?_
            show Steps _ _ _ (T164.setTop (mkF m 294 #[vJ q1, .second, vI p2, vJ q3, .second, vI p4, vR b1, vI fv, vI tv, vI kv, vI v43, vI v46, vI 3, vR b140, vR b159, .unset] [iI 3])) _
            refine XS.iconst X164.here hx rfl (hb hby at_294) ?_
            show Steps _ _ _ (T164.setTop (mkF m 295 #[vJ q1, .second, vI p2, vJ q3, .second, vI p4, vR b1, vI fv, vI tv, vI kv, vI v43, vI v46, vI 3, vR b140, vR b159, .unset] [iI 2, iI 3])) _
            refine XS.icmpNo X164.here hx rfl (hb hby at_295) rfl (flt (by decide : ¬ ((3 : Int32) < (2 : Int32)))).1 ?_
            show Steps _ _ _ (T164.setTop (mkF m 298 #[vJ q1, .second, vI p2, vJ q3, .second, vI p4, vR b1, vI fv, vI tv, vI kv, vI v43, vI v46, vI 3, vR b140, vR b159, .unset] [])) _
            refine XS.aload X164.here hx rfl (hb hby at_298) rfl rfl ?_
            show Steps _ _ _ (T164.setTop (mkF m 300 #[vJ q1, .second, vI p2, vJ q3, .second, vI p4, vR b1, vI fv, vI tv, vI kv, vI v43, vI v46, vI 3, vR b140, vR b159, .unset] [iR b140])) _
            refine XS.iconst X164.here hx rfl (hb hby at_300) ?_
            show Steps _ _ _ (T164.setTop (mkF m 301 #[vJ q1, .second, vI p2, vJ q3, .second, vI p4, vR b1, vI fv, vI tv, vI kv, vI v43, vI v46, vI 3, vR b140, vR b159, .unset] [iI 1, iR b140])) _
            refine X164.baloadBytes hx (j := (1 : Int32)) (v := (.int (nar .byte nbt1))) Ar170.1 (State.isArrayOf_alike hZ.alike Ar170.2.1) Ar170.2.2 hin179 hat180 (g := (mkF m 301 #[vJ q1, .second, vI p2, vJ q3, .second, vI p4, vR b1, vI fv, vI tv, vI kv, vI v43, vI v46, vI 3, vR b140, vR b159, .unset] [iI 1, iR b140])) rfl rfl (hb hby at_301) _ ?_
            show Steps _ _ _ (T164.setTop (mkF m 302 #[vJ q1, .second, vI p2, vJ q3, .second, vI p4, vR b1, vI fv, vI tv, vI kv, vI v43, vI v46, vI 3, vR b140, vR b159, .unset] [iI (nar .byte nbt1)])) _
            refine XS.aload X164.here hx rfl (hb hby at_302) rfl rfl ?_
            show Steps _ _ _ (T164.setTop (mkF m 304 #[vJ q1, .second, vI p2, vJ q3, .second, vI p4, vR b1, vI fv, vI tv, vI kv, vI v43, vI v46, vI 3, vR b140, vR b159, .unset] [iR b1, iI (nar .byte nbt1)])) _
            refine XS.iload X164.here hx rfl (hb hby at_304) rfl ?_
            show Steps _ _ _ (T164.setTop (mkF m 306 #[vJ q1, .second, vI p2, vJ q3, .second, vI p4, vR b1, vI fv, vI tv, vI kv, vI v43, vI v46, vI 3, vR b140, vR b159, .unset] [iI v43, iR b1, iI (nar .byte nbt1)])) _
            refine XS.iconst X164.here hx rfl (hb hby at_306) ?_
            show Steps _ _ _ (T164.setTop (mkF m 307 #[vJ q1, .second, vI p2, vJ q3, .second, vI p4, vR b1, vI fv, vI tv, vI kv, vI v43, vI v46, vI 3, vR b140, vR b159, .unset] [iI 1, iI v43, iR b1, iI (nar .byte nbt1)])) _
            refine XS.iadd X164.here hx rfl (hb hby at_307) rfl ?_
            show Steps _ _ _ (T164.setTop (mkF m 308 #[vJ q1, .second, vI p2, vJ q3, .second, vI p4, vR b1, vI fv, vI tv, vI kv, vI v43, vI v46, vI 3, vR b140, vR b159, .unset] [iI (v43 + (1 : Int32)), iR b1, iI (nar .byte nbt1)])) _
            refine X164.baloadBytes hx (j := (v43 + (1 : Int32))) (v := (.int (own_at (nar .byte nb0) (nar .byte nb1) (nar .byte nb2) (nar .byte v17) (nar .byte nb4) (nar .byte nb5) (nar .byte nb6) (v43 + (1 : Int32))))) Ar174.1 (State.isArrayOf_alike hZ.alike Ar174.2.1) Ar174.2.2 hin181 hat182 (g := (mkF m 308 #[vJ q1, .second, vI p2, vJ q3, .second, vI p4, vR b1, vI fv, vI tv, vI kv, vI v43, vI v46, vI 3, vR b140, vR b159, .unset] [iI (v43 + (1 : Int32)), iR b1, iI (nar .byte nbt1)])) rfl rfl (hb hby at_308) _ ?_
            exact kt
          by_cases hc183 : (nar .byte nbt1) = (own_at (nar .byte nb0) (nar .byte nb1) (nar .byte nb2) (nar .byte v17) (nar .byte nb4) (nar .byte nb5) (nar .byte nb6) (v43 + (1 : Int32)))
          · have hin185 : ¬ ((2 : Int32) < 0 ∨ cl170.slots.size ≤ ((2 : Int32)).toNatClampNeg) := inb_of S170 ⟨by decide, by decide⟩
            have hat186 : cl170.slots[((2 : Int32)).toNatClampNeg]? = some (.int (nar .byte nbt2)) := Has.at H170 hin185 rfl
            have hin187 : ¬ ((v43 + (2 : Int32)) < 0 ∨ cl174.slots.size ≤ ((v43 + (2 : Int32))).toNatClampNeg) := inb_of S174 (own_pin2 q10)
            have hat188 : cl174.slots[((v43 + (2 : Int32))).toNatClampNeg]? = some (.int (own_at (nar .byte nb0) (nar .byte nb1) (nar .byte nb2) (nar .byte v17) (nar .byte nb4) (nar .byte nb5) (nar .byte nb6) (v43 + (2 : Int32)))) := Has.at H174 hin187 (own_atL (own_pin2 q10))
            have pre190 : ∀ t, Steps p.tables e below (T164.setTop (mkF m 329 #[vJ q1, .second, vI p2, vJ q3, .second, vI p4, vR b1, vI fv, vI tv, vI kv, vI v43, vI v46, vI 3, vR b140, vR b159, .unset] [iI (own_at (nar .byte nb0) (nar .byte nb1) (nar .byte nb2) (nar .byte v17) (nar .byte nb4) (nar .byte nb5) (nar .byte nb6) (v43 + (2 : Int32))), iI (nar .byte nbt2)])) t → Steps p.tables e below (T164.setTop (mkF m 271 #[vJ q1, .second, vI p2, vJ q3, .second, vI p4, vR b1, vI fv, vI tv, vI kv, vI v43, vI v46, vI 3, vR b140, vR b159, .unset] [iI 3, iI (v46 - v43)])) t := by
              intro t kt
              refine pre184 t ?_
              show Steps _ _ _ (T164.setTop (mkF m 309 #[vJ q1, .second, vI p2, vJ q3, .second, vI p4, vR b1, vI fv, vI tv, vI kv, vI v43, vI v46, vI 3, vR b140, vR b159, .unset] [iI (own_at (nar .byte nb0) (nar .byte nb1) (nar .byte nb2) (nar .byte v17) (nar .byte nb4) (nar .byte nb5) (nar .byte nb6) (v43 + (1 : Int32))), iI (nar .byte nbt1)])) _
              refine XS.icmpNo X164.here hx rfl (hb hby at_309) rfl (teq hc183).2 ?_
              show Steps _ _ _ (T164.setTop (mkF m 312 #[vJ q1, .second, vI p2, vJ q3, .second, vI p4, vR b1, vI fv, vI tv, vI kv, vI v43, vI v46, vI 3, vR b140, vR b159, .unset] [])) _
              refine XS.iload X164.here hx rfl (hb hby at_312) rfl ?_
              show Steps _ _ _ (T164.setTop (mkF m 314 #[vJ q1, .second, vI p2, vJ q3, .second, vI p4, vR b1, vI fv, vI tv, vI kv, vI v43, vI v46, vI 3, vR b140, vR b159, .unset] [iI 3])) _
              refine XS.iconst X164.here hx rfl (hb hby at_314) ?_
              show Steps _ _ _ (T164.setTop (mkF m 315 #[vJ q1, .second, vI p2, vJ q3, .second, vI p4, vR b1, vI fv, vI tv, vI kv, vI v43, vI v46, vI 3, vR b140, vR b159, .unset] [iI 3, iI 3])) _
              refine XS.icmpNo X164.here hx rfl (hb hby at_315) rfl (flt (by decide : ¬ ((3 : Int32) < (3 : Int32)))).1 ?_
              show Steps _ _ _ (T164.setTop (mkF m 318 #[vJ q1, .second, vI p2, vJ q3, .second, vI p4, vR b1, vI fv, vI tv, vI kv, vI v43, vI v46, vI 3, vR b140, vR b159, .unset] [])) _
              refine XS.aload X164.here hx rfl (hb hby at_318) rfl rfl ?_
              show Steps _ _ _ (T164.setTop (mkF m 320 #[vJ q1, .second, vI p2, vJ q3, .second, vI p4, vR b1, vI fv, vI tv, vI kv, vI v43, vI v46, vI 3, vR b140, vR b159, .unset] [iR b140])) _
              refine XS.iconst X164.here hx rfl (hb hby at_320) ?_
              show Steps _ _ _ (T164.setTop (mkF m 321 #[vJ q1, .second, vI p2, vJ q3, .second, vI p4, vR b1, vI fv, vI tv, vI kv, vI v43, vI v46, vI 3, vR b140, vR b159, .unset] [iI 2, iR b140])) _
              refine X164.baloadBytes hx (j := (2 : Int32)) (v := (.int (nar .byte nbt2))) Ar170.1 (State.isArrayOf_alike hZ.alike Ar170.2.1) Ar170.2.2 hin185 hat186 (g := (mkF m 321 #[vJ q1, .second, vI p2, vJ q3, .second, vI p4, vR b1, vI fv, vI tv, vI kv, vI v43, vI v46, vI 3, vR b140, vR b159, .unset] [iI 2, iR b140])) rfl rfl (hb hby at_321) _ ?_
              show Steps _ _ _ (T164.setTop (mkF m 322 #[vJ q1, .second, vI p2, vJ q3, .second, vI p4, vR b1, vI fv, vI tv, vI kv, vI v43, vI v46, vI 3, vR b140, vR b159, .unset] [iI (nar .byte nbt2)])) _
              refine XS.aload X164.here hx rfl (hb hby at_322) rfl rfl ?_
              show Steps _ _ _ (T164.setTop (mkF m 324 #[vJ q1, .second, vI p2, vJ q3, .second, vI p4, vR b1, vI fv, vI tv, vI kv, vI v43, vI v46, vI 3, vR b140, vR b159, .unset] [iR b1, iI (nar .byte nbt2)])) _
              refine XS.iload X164.here hx rfl (hb hby at_324) rfl ?_
              show Steps _ _ _ (T164.setTop (mkF m 326 #[vJ q1, .second, vI p2, vJ q3, .second, vI p4, vR b1, vI fv, vI tv, vI kv, vI v43, vI v46, vI 3, vR b140, vR b159, .unset] [iI v43, iR b1, iI (nar .byte nbt2)])) _
              refine XS.iconst X164.here hx rfl (hb hby at_326) ?_
              show Steps _ _ _ (T164.setTop (mkF m 327 #[vJ q1, .second, vI p2, vJ q3, .second, vI p4, vR b1, vI fv, vI tv, vI kv, vI v43, vI v46, vI 3, vR b140, vR b159, .unset] [iI 2, iI v43, iR b1, iI (nar .byte nbt2)])) _
              refine XS.iadd X164.here hx rfl (hb hby at_327) rfl ?_
              show Steps _ _ _ (T164.setTop (mkF m 328 #[vJ q1, .second, vI p2, vJ q3, .second, vI p4, vR b1, vI fv, vI tv, vI kv, vI v43, vI v46, vI 3, vR b140, vR b159, .unset] [iI (v43 + (2 : Int32)), iR b1, iI (nar .byte nbt2)])) _
              refine X164.baloadBytes hx (j := (v43 + (2 : Int32))) (v := (.int (own_at (nar .byte nb0) (nar .byte nb1) (nar .byte nb2) (nar .byte v17) (nar .byte nb4) (nar .byte nb5) (nar .byte nb6) (v43 + (2 : Int32))))) Ar174.1 (State.isArrayOf_alike hZ.alike Ar174.2.1) Ar174.2.2 hin187 hat188 (g := (mkF m 328 #[vJ q1, .second, vI p2, vJ q3, .second, vI p4, vR b1, vI fv, vI tv, vI kv, vI v43, vI v46, vI 3, vR b140, vR b159, .unset] [iI (v43 + (2 : Int32)), iR b1, iI (nar .byte nbt2)])) rfl rfl (hb hby at_328) _ ?_
              exact kt
            by_cases hc189 : (nar .byte nbt2) = (own_at (nar .byte nb0) (nar .byte nb1) (nar .byte nb2) (nar .byte v17) (nar .byte nb4) (nar .byte nb5) (nar .byte nb6) (v43 + (2 : Int32)))
            · refine ⟨T164, X164, rfl, fun t kt => ?_⟩
              subst hv166
              simp only [if_pos hc168, if_pos hc177, if_pos hc183, if_pos hc189] at kt
              refine pre190 t ?_
              show Steps _ _ _ (T164.setTop (mkF m 329 #[vJ q1, .second, vI p2, vJ q3, .second, vI p4, vR b1, vI fv, vI tv, vI kv, vI v43, vI v46, vI 3, vR b140, vR b159, .unset] [iI (own_at (nar .byte nb0) (nar .byte nb1) (nar .byte nb2) (nar .byte v17) (nar .byte nb4) (nar .byte nb5) (nar .byte nb6) (v43 + (2 : Int32))), iI (nar .byte nbt2)])) _
              refine XS.icmpNo X164.here hx rfl (hb hby at_329) rfl (teq hc189).2 ?_
              show Steps _ _ _ (T164.setTop (mkF m 332 #[vJ q1, .second, vI p2, vJ q3, .second, vI p4, vR b1, vI fv, vI tv, vI kv, vI v43, vI v46, vI 3, vR b140, vR b159, .unset] [])) _
              refine XS.iconst X164.here hx rfl (hb hby at_332) ?_
              show Steps _ _ _ (T164.setTop (mkF m 333 #[vJ q1, .second, vI p2, vJ q3, .second, vI p4, vR b1, vI fv, vI tv, vI kv, vI v43, vI v46, vI 3, vR b140, vR b159, .unset] [iI 1])) _
              refine XS.goto X164.here hx rfl (pc0 := 333) (pc' := 337) rfl (hb hby at_333) (by decide) (by decide) ?_
              exact kt
            · refine ⟨T164, X164, rfl, fun t kt => ?_⟩
              subst hv166
              simp only [if_pos hc168, if_pos hc177, if_pos hc183, if_neg hc189] at kt
              refine pre190 t ?_
              show Steps _ _ _ (T164.setTop (mkF m 329 #[vJ q1, .second, vI p2, vJ q3, .second, vI p4, vR b1, vI fv, vI tv, vI kv, vI v43, vI v46, vI 3, vR b140, vR b159, .unset] [iI (own_at (nar .byte nb0) (nar .byte nb1) (nar .byte nb2) (nar .byte v17) (nar .byte nb4) (nar .byte nb5) (nar .byte nb6) (v43 + (2 : Int32))), iI (nar .byte nbt2)])) _
              refine XS.icmpYes X164.here hx rfl (pc0 := 329) (pc' := 336) rfl (hb hby at_329) rfl (feq hc189).2 (by decide) (by decide) ?_
              show Steps _ _ _ (T164.setTop (mkF m 336 #[vJ q1, .second, vI p2, vJ q3, .second, vI p4, vR b1, vI fv, vI tv, vI kv, vI v43, vI v46, vI 3, vR b140, vR b159, .unset] [])) _
              refine XS.iconst X164.here hx rfl (hb hby at_336) ?_
              exact kt
          · refine ⟨T164, X164, rfl, fun t kt => ?_⟩
            subst hv166
            simp only [if_pos hc168, if_pos hc177, if_neg hc183] at kt
            refine pre184 t ?_
            show Steps _ _ _ (T164.setTop (mkF m 309 #[vJ q1, .second, vI p2, vJ q3, .second, vI p4, vR b1, vI fv, vI tv, vI kv, vI v43, vI v46, vI 3, vR b140, vR b159, .unset] [iI (own_at (nar .byte nb0) (nar .byte nb1) (nar .byte nb2) (nar .byte v17) (nar .byte nb4) (nar .byte nb5) (nar .byte nb6) (v43 + (1 : Int32))), iI (nar .byte nbt1)])) _
            refine XS.icmpYes X164.here hx rfl (pc0 := 309) (pc' := 336) rfl (hb hby at_309) rfl (feq hc183).2 (by decide) (by decide) ?_
            show Steps _ _ _ (T164.setTop (mkF m 336 #[vJ q1, .second, vI p2, vJ q3, .second, vI p4, vR b1, vI fv, vI tv, vI kv, vI v43, vI v46, vI 3, vR b140, vR b159, .unset] [])) _
            refine XS.iconst X164.here hx rfl (hb hby at_336) ?_
            exact kt
        · refine ⟨T164, X164, rfl, fun t kt => ?_⟩
          subst hv166
          simp only [if_pos hc168, if_neg hc177] at kt
          refine pre178 t ?_
          show Steps _ _ _ (T164.setTop (mkF m 289 #[vJ q1, .second, vI p2, vJ q3, .second, vI p4, vR b1, vI fv, vI tv, vI kv, vI v43, vI v46, vI 3, vR b140, vR b159, .unset] [iI (own_at (nar .byte nb0) (nar .byte nb1) (nar .byte nb2) (nar .byte v17) (nar .byte nb4) (nar .byte nb5) (nar .byte nb6) v43), iI (nar .byte nbt0)])) _
          refine XS.icmpYes X164.here hx rfl (pc0 := 289) (pc' := 336) rfl (hb hby at_289) rfl (feq hc177).2 (by decide) (by decide) ?_
          show Steps _ _ _ (T164.setTop (mkF m 336 #[vJ q1, .second, vI p2, vJ q3, .second, vI p4, vR b1, vI fv, vI tv, vI kv, vI v43, vI v46, vI 3, vR b140, vR b159, .unset] [])) _
          refine XS.iconst X164.here hx rfl (hb hby at_336) ?_
          exact kt
      · refine ⟨T164, X164, rfl, fun t kt => ?_⟩
        subst hv166
        simp only [if_neg hc168] at kt
        show Steps _ _ _ (T164.setTop (mkF m 271 #[vJ q1, .second, vI p2, vJ q3, .second, vI p4, vR b1, vI fv, vI tv, vI kv, vI v43, vI v46, vI 3, vR b140, vR b159, .unset] [iI 3, iI (v46 - v43)])) _
        refine XS.icmpYes X164.here hx rfl (pc0 := 271) (pc' := 336) rfl (hb hby at_271) rfl (feq hc168).2 (by decide) (by decide) ?_
        show Steps _ _ _ (T164.setTop (mkF m 336 #[vJ q1, .second, vI p2, vJ q3, .second, vI p4, vR b1, vI fv, vI tv, vI kv, vI v43, vI v46, vI 3, vR b140, vR b159, .unset] [])) _
        refine XS.iconst X164.here hx rfl (hb hby at_336) ?_
        exact kt
    have fk192 := (fk165.keep K164q (ninS ne_b1_b159 (ninS ne_b1_s1 (ninS ne_b1_s2 nin0))))
    have fk193 := ((fk163.keep K161q (ninS ne_b140_b159 nin0)).keep K164q (ninS ne_b140_b159 (ninS ne_b140_s1 (ninS ne_b140_s2 nin0))))
    obtain ⟨cq191, kq191, q191a, q191b, q191c⟩ := isOf hZ e167 E164q
    obtain ⟨_, _, ⟨T191, L191, k191, n191⟩, -, X191, ⟨Lc191, hQ191, l191, y191, z191⟩, st191⟩ := X167.virtualBack hx (y := (⟨"com/example/tidemine/tidemine/TextFormat$Tokens", "is", "(I[B)Z"⟩ : MethodName)) (z := (⟨"com/example/tidemine/tidemine/TextFormat$Tokens", "is", "(I[B)Z"⟩ : MethodName)) hown (mvT hZ (hw _ (List.mem_of_getElem? (i := 36) rfl))) (mvT hZ (hw _ (List.mem_of_getElem? (i := 37) rfl))) (notFace_of_selects (args := #[]) (mvT hZ (hw _ (List.mem_of_getElem? (i := 39) rfl)))) (mvT hZ (hw _ (List.mem_of_getElem? (i := 39) rfl))) (mvT hZ (hw _ (List.mem_of_getElem? (i := 38) rfl))) (by decide) (backOf (W := 0) (rm7_3 l Z a0 hw [] b159 kv b140 s1 s2 b1 kt1 kt2 k1 k140 fv tv (nar .byte nb0) (nar .byte nb1) (nar .byte nb2) (nar .byte v17) (nar .byte nb4) (nar .byte nb5) (nar .byte nb6) (nar .byte nbt0) (nar .byte nbt1) (nar .byte nbt2) T164.heap Fl164q Fs164q Fe164q V1164q V2164q fk192 fk193 qkv qfv qtv) hZ (hw _ (List.mem_of_getElem? (i := 40) rfl)) (hw _ (List.mem_of_getElem? (i := 11) rfl)) (by decide) (by decide)) q191a q191c (g := (mkF m 345 #[vJ q1, .second, vI p2, vJ q3, .second, vI p4, vR b1, vI fv, vI tv, vI kv, vI v43, vI v46, vI 3, vR b140, vR b159, vI v166] [iR b140, iI kv, iR b159])) rfl (by rw [hml]; rfl) (Steps.refl _) (argsL := [(.int kv), (.ref b140)]) (rest := []) (lenOf pd_5 rfl) rfl (by show 2 * 0 + _ ≤ _; exact Nat.le_of_eq rfl) (hb hby at_345) (fun _ _ => ⟨rfl, e167, (by decide : 5 + 0 ≤ _), (by decide : 46 + 0 ≤ _)⟩)
    dsimp only [Pt.U, Pt.locs, Pt.cells, Pt.slots] at X191 l191 y191 z191 st191 hQ191
    subst l191 y191 z191
    obtain ⟨rfl, rfl, e191⟩ := hQ191
    try rw [List.append_nil] at X191
    have hh194 : (own_is_3 kv fv tv (nar .byte nb0) (nar .byte nb1) (nar .byte nb2) (nar .byte v17) (nar .byte nb4) (nar .byte nb5) (nar .byte nb6) (nar .byte nbt0) (nar .byte nbt1) (nar .byte nbt2)) = v166 := (by rw [hv166]; exact own_fin3 _ _ _ _ _ _ _ _ _ _ _ _ _ _ _ hv43 hv46)
    obtain ⟨fs, hr, hrun, hended, hW, hsame⟩ := X191.leave (v := some (.int (1 : Int32))) (fun h => by rw [Bd.returns] at h; cases h)
    refine ⟨_, _, pre50 _ ?_, hrun, hended, _, _, rfl, ?_, ⟨_, rfl⟩, hW, hsame.mono (by decide) (by decide)⟩
    · show Steps _ _ _ (T47.setTop (mkF m 142 #[vJ q1, .second, vI p2, vJ q3, .second, vI p4, vR b1, vI fv, vI tv, vI kv, vI v43, vI v46, vI 3, .unset, .unset, .unset] [])) _
      refine XS.iload X47.here hx rfl (hb hby at_142) rfl ?_
      show Steps _ _ _ (T47.setTop (mkF m 144 #[vJ q1, .second, vI p2, vJ q3, .second, vI p4, vR b1, vI fv, vI tv, vI kv, vI v43, vI v46, vI 3, .unset, .unset, .unset] [iI 3])) _
      refine XS.ifYes X47.here hx rfl (pc0 := 144) (pc' := 153) rfl (hb hby at_144) rfl ((if0 _ _).trans (feq (by decide : ¬ ((3 : Int32) = (0 : Int32)))).2) (by decide) (by decide) ?_
      show Steps _ _ _ (T47.setTop (mkF m 153 #[vJ q1, .second, vI p2, vJ q3, .second, vI p4, vR b1, vI fv, vI tv, vI kv, vI v43, vI v46, vI 3, .unset, .unset, .unset] [])) _
      refine XS.iload X47.here hx rfl (hb hby at_153) rfl ?_
      show Steps _ _ _ (T47.setTop (mkF m 155 #[vJ q1, .second, vI p2, vJ q3, .second, vI p4, vR b1, vI fv, vI tv, vI kv, vI v43, vI v46, vI 3, .unset, .unset, .unset] [iI 3])) _
      refine XS.iconst X47.here hx rfl (hb hby at_155) ?_
      show Steps _ _ _ (T47.setTop (mkF m 156 #[vJ q1, .second, vI p2, vJ q3, .second, vI p4, vR b1, vI fv, vI tv, vI kv, vI v43, vI v46, vI 3, .unset, .unset, .unset] [iI 1, iI 3])) _
      refine XS.icmpYes X47.here hx rfl (pc0 := 156) (pc' := 165) rfl (hb hby at_156) rfl (feq (by decide : ¬ ((3 : Int32) = (1 : Int32)))).2 (by decide) (by decide) ?_
      show Steps _ _ _ (T47.setTop (mkF m 165 #[vJ q1, .second, vI p2, vJ q3, .second, vI p4, vR b1, vI fv, vI tv, vI kv, vI v43, vI v46, vI 3, .unset, .unset, .unset] [])) _
      refine XS.iload X47.here hx rfl (hb hby at_165) rfl ?_
      show Steps _ _ _ (T47.setTop (mkF m 167 #[vJ q1, .second, vI p2, vJ q3, .second, vI p4, vR b1, vI fv, vI tv, vI kv, vI v43, vI v46, vI 3, .unset, .unset, .unset] [iI 3])) _
      refine XS.iconst X47.here hx rfl (hb hby at_167) ?_
      show Steps _ _ _ (T47.setTop (mkF m 168 #[vJ q1, .second, vI p2, vJ q3, .second, vI p4, vR b1, vI fv, vI tv, vI kv, vI v43, vI v46, vI 3, .unset, .unset, .unset] [iI 2, iI 3])) _
      refine XS.icmpYes X47.here hx rfl (pc0 := 168) (pc' := 177) rfl (hb hby at_168) rfl (feq (by decide : ¬ ((3 : Int32) = (2 : Int32)))).2 (by decide) (by decide) ?_
      show Steps _ _ _ (T47.setTop (mkF m 177 #[vJ q1, .second, vI p2, vJ q3, .second, vI p4, vR b1, vI fv, vI tv, vI kv, vI v43, vI v46, vI 3, .unset, .unset, .unset] [])) _
      refine XS.iconst X47.here hx rfl (hb hby at_177) ?_
      show Steps _ _ _ (T47.setTop (mkF m 178 #[vJ q1, .second, vI p2, vJ q3, .second, vI p4, vR b1, vI fv, vI tv, vI kv, vI v43, vI v46, vI 3, .unset, .unset, .unset] [iI 3])) _
      refine st140 _ ?_
      show Steps _ _ _ (T140.setTop (mkF m 180 #[vJ q1, .second, vI p2, vJ q3, .second, vI p4, vR b1, vI fv, vI tv, vI kv, vI v43, vI v46, vI 3, .unset, .unset, .unset] [iR b140])) _
      refine XS.astore X140.here hx rfl (hb hby at_180) rfl rfl (l' := #[vJ q1, .second, vI p2, vJ q3, .second, vI p4, vR b1, vI fv, vI tv, vI kv, vI v43, vI v46, vI 3, vR b140, .unset, .unset]) rfl ?_
      show Steps _ _ _ (T140.setTop (mkF m 182 #[vJ q1, .second, vI p2, vJ q3, .second, vI p4, vR b1, vI fv, vI tv, vI kv, vI v43, vI v46, vI 3, vR b140, .unset, .unset] [])) _
      refine XS.iload X140.here hx rfl (hb hby at_182) rfl ?_
      show Steps _ _ _ (T140.setTop (mkF m 184 #[vJ q1, .second, vI p2, vJ q3, .second, vI p4, vR b1, vI fv, vI tv, vI kv, vI v43, vI v46, vI 3, vR b140, .unset, .unset] [iI 3])) _
      refine XS.ifNo X140.here hx rfl (hb hby at_184) rfl ((if0 _ _).trans (tlt (by decide : (0 : Int32) < (3 : Int32))).2.2.2) ?_
      show Steps _ _ _ (T140.setTop (mkF m 187 #[vJ q1, .second, vI p2, vJ q3, .second, vI p4, vR b1, vI fv, vI tv, vI kv, vI v43, vI v46, vI 3, vR b140, .unset, .unset] [])) _
      refine XS.aload X140.here hx rfl (hb hby at_187) rfl rfl ?_
      show Steps _ _ _ (T140.setTop (mkF m 189 #[vJ q1, .second, vI p2, vJ q3, .second, vI p4, vR b1, vI fv, vI tv, vI kv, vI v43, vI v46, vI 3, vR b140, .unset, .unset] [iR b140])) _
      refine XS.iconst X140.here hx rfl (hb hby at_189) ?_
      show Steps _ _ _ (T140.setTop (mkF m 190 #[vJ q1, .second, vI p2, vJ q3, .second, vI p4, vR b1, vI fv, vI tv, vI kv, vI v43, vI v46, vI 3, vR b140, .unset, .unset] [iI 0, iR b140])) _
      refine XS.aload X140.here hx rfl (hb hby at_190) rfl rfl ?_
      show Steps _ _ _ (T140.setTop (mkF m 192 #[vJ q1, .second, vI p2, vJ q3, .second, vI p4, vR b1, vI fv, vI tv, vI kv, vI v43, vI v46, vI 3, vR b140, .unset, .unset] [iR b1, iI 0, iR b140])) _
      refine XS.iload X140.here hx rfl (hb hby at_192) rfl ?_
      show Steps _ _ _ (T140.setTop (mkF m 194 #[vJ q1, .second, vI p2, vJ q3, .second, vI p4, vR b1, vI fv, vI tv, vI kv, vI v43, vI v46, vI 3, vR b140, .unset, .unset] [iI v43, iR b1, iI 0, iR b140])) _
      refine XS.lloadN X140.here hx rfl (hb hby at_194) rfl ?_
      show Steps _ _ _ (T140.setTop (mkF m 195 #[vJ q1, .second, vI p2, vJ q3, .second, vI p4, vR b1, vI fv, vI tv, vI kv, vI v43, vI v46, vI 3, vR b140, .unset, .unset] [iJ q3, iI v43, iR b1, iI 0, iR b140])) _
      refine XS.iconst X140.here hx rfl (hb hby at_195) ?_
      show Steps _ _ _ (T140.setTop (mkF m 196 #[vJ q1, .second, vI p2, vJ q3, .second, vI p4, vR b1, vI fv, vI tv, vI kv, vI v43, vI v46, vI 3, vR b140, .unset, .unset] [iI 0, iJ q3, iI v43, iR b1, iI 0, iR b140])) _
      refine XS.iload X140.here hx rfl (hb hby at_196) rfl ?_
      show Steps _ _ _ (T140.setTop (mkF m 198 #[vJ q1, .second, vI p2, vJ q3, .second, vI p4, vR b1, vI fv, vI tv, vI kv, vI v43, vI v46, vI 3, vR b140, .unset, .unset] [iI p4, iI 0, iJ q3, iI v43, iR b1, iI 0, iR b140])) _
      refine st141 _ ?_
      rw [← hnbt0]
      show Steps _ _ _ (T141.setTop (mkF m 201 #[vJ q1, .second, vI p2, vJ q3, .second, vI p4, vR b1, vI fv, vI tv, vI kv, vI v43, vI v46, vI 3, vR b140, .unset, .unset] [iI nbt0, iI 0, iR b140])) _
      refine st146 _ ?_
      show Steps _ _ _ (T146.setTop (mkF m 202 #[vJ q1, .second, vI p2, vJ q3, .second, vI p4, vR b1, vI fv, vI tv, vI kv, vI v43, vI v46, vI 3, vR b140, .unset, .unset] [])) _
      refine XS.iload X146.here hx rfl (hb hby at_202) rfl ?_
      show Steps _ _ _ (T146.setTop (mkF m 204 #[vJ q1, .second, vI p2, vJ q3, .second, vI p4, vR b1, vI fv, vI tv, vI kv, vI v43, vI v46, vI 3, vR b140, .unset, .unset] [iI 3])) _
      refine XS.iconst X146.here hx rfl (hb hby at_204) ?_
      show Steps _ _ _ (T146.setTop (mkF m 205 #[vJ q1, .second, vI p2, vJ q3, .second, vI p4, vR b1, vI fv, vI tv, vI kv, vI v43, vI v46, vI 3, vR b140, .unset, .unset] [iI 1, iI 3])) _
      refine XS.icmpNo X146.here hx rfl (hb hby at_205) rfl (tlt (by decide : (1 : Int32) < (3 : Int32))).2.2.2 ?_
      show Steps _ _ _ (T146.setTop (mkF m 208 #[vJ q1, .second, vI p2, vJ q3, .second, vI p4, vR b1, vI fv, vI tv, vI kv, vI v43, vI v46, vI 3, vR b140, .unset, .unset] [])) _
      refine XS.aload X146.here hx rfl (hb hby at_208) rfl rfl ?_
      show Steps _ _ _ (T146.setTop (mkF m 210 #[vJ q1, .second, vI p2, vJ q3, .second, vI p4, vR b1, vI fv, vI tv, vI kv, vI v43, vI v46, vI 3, vR b140, .unset, .unset] [iR b140])) _
      refine XS.iconst X146.here hx rfl (hb hby at_210) ?_
      show Steps _ _ _ (T146.setTop (mkF m 211 #[vJ q1, .second, vI p2, vJ q3, .second, vI p4, vR b1, vI fv, vI tv, vI kv, vI v43, vI v46, vI 3, vR b140, .unset, .unset] [iI 1, iR b140])) _
      refine XS.aload X146.here hx rfl (hb hby at_211) rfl rfl ?_
      show Steps _ _ _ (T146.setTop (mkF m 213 #[vJ q1, .second, vI p2, vJ q3, .second, vI p4, vR b1, vI fv, vI tv, vI kv, vI v43, vI v46, vI 3, vR b140, .unset, .unset] [iR b1, iI 1, iR b140])) _
      refine XS.iload X146.here hx rfl (hb hby at_213) rfl ?_
      show Steps _ _ _ (T146.setTop (mkF m 215 #[vJ q1, .second, vI p2, vJ q3, .second, vI p4, vR b1, vI fv, vI tv, vI kv, vI v43, vI v46, vI 3, vR b140, .unset, .unset] [iI v43, iR b1, iI 1, iR b140])) _
      refine XS.lloadN X146.here hx rfl (hb hby at_215) rfl ?_
      show Steps _ _ _ (T146.setTop (mkF m 216 #[vJ q1, .second, vI p2, vJ q3, .second, vI p4, vR b1, vI fv, vI tv, vI kv, vI v43, vI v46, vI 3, vR b140, .unset, .unset] [iJ q3, iI v43, iR b1, iI 1, iR b140])) _
      refine XS.iconst X146.here hx rfl (hb hby at_216) ?_
      show Steps _ _ _ (T146.setTop (mkF m 217 #[vJ q1, .second, vI p2, vJ q3, .second, vI p4, vR b1, vI fv, vI tv, vI kv, vI v43, vI v46, vI 3, vR b140, .unset, .unset] [iI 1, iJ q3, iI v43, iR b1, iI 1, iR b140])) _
      refine XS.iload X146.here hx rfl (hb hby at_217) rfl ?_
      show Steps _ _ _ (T146.setTop (mkF m 219 #[vJ q1, .second, vI p2, vJ q3, .second, vI p4, vR b1, vI fv, vI tv, vI kv, vI v43, vI v46, vI 3, vR b140, .unset, .unset] [iI p4, iI 1, iJ q3, iI v43, iR b1, iI 1, iR b140])) _
      refine st147 _ ?_
      rw [← hnbt1]
      show Steps _ _ _ (T147.setTop (mkF m 222 #[vJ q1, .second, vI p2, vJ q3, .second, vI p4, vR b1, vI fv, vI tv, vI kv, vI v43, vI v46, vI 3, vR b140, .unset, .unset] [iI nbt1, iI 1, iR b140])) _
      refine st152 _ ?_
      show Steps _ _ _ (T152.setTop (mkF m 223 #[vJ q1, .second, vI p2, vJ q3, .second, vI p4, vR b1, vI fv, vI tv, vI kv, vI v43, vI v46, vI 3, vR b140, .unset, .unset] [])) _
      refine XS.iload X152.here hx rfl (hb hby at_223) rfl ?_
      show Steps _ _ _ (T152.setTop (mkF m 225 #[vJ q1, .second, vI p2, vJ q3, .second, vI p4, vR b1, vI fv, vI tv, vI kv, vI v43, vI v46, vI 3, vR b140, .unset, .unset] [iI 3])) _
      refine XS.iconst X152.here hx rfl (hb hby at_225) ?_
      show Steps _ _ _ (T152.setTop (mkF m 226 #[vJ q1, .second, vI p2, vJ q3, .second, vI p4, vR b1, vI fv, vI tv, vI kv, vI v43, vI v46, vI 3, vR b140, .unset, .unset] [iI 2, iI 3])) _
      refine XS.icmpNo X152.here hx rfl (hb hby at_226) rfl (tlt (by decide : (2 : Int32) < (3 : Int32))).2.2.2 ?_
      show Steps _ _ _ (T152.setTop (mkF m 229 #[vJ q1, .second, vI p2, vJ q3, .second, vI p4, vR b1, vI fv, vI tv, vI kv, vI v43, vI v46, vI 3, vR b140, .unset, .unset] [])) _
      refine XS.aload X152.here hx rfl (hb hby at_229) rfl rfl ?_
      show Steps _ _ _ (T152.setTop (mkF m 231 #[vJ q1, .second, vI p2, vJ q3, .second, vI p4, vR b1, vI fv, vI tv, vI kv, vI v43, vI v46, vI 3, vR b140, .unset, .unset] [iR b140])) _
      refine XS.iconst X152.here hx rfl (hb hby at_231) ?_
      show Steps _ _ _ (T152.setTop (mkF m 232 #[vJ q1, .second, vI p2, vJ q3, .second, vI p4, vR b1, vI fv, vI tv, vI kv, vI v43, vI v46, vI 3, vR b140, .unset, .unset] [iI 2, iR b140])) _
      refine XS.aload X152.here hx rfl (hb hby at_232) rfl rfl ?_
      show Steps _ _ _ (T152.setTop (mkF m 234 #[vJ q1, .second, vI p2, vJ q3, .second, vI p4, vR b1, vI fv, vI tv, vI kv, vI v43, vI v46, vI 3, vR b140, .unset, .unset] [iR b1, iI 2, iR b140])) _
      refine XS.iload X152.here hx rfl (hb hby at_234) rfl ?_
      show Steps _ _ _ (T152.setTop (mkF m 236 #[vJ q1, .second, vI p2, vJ q3, .second, vI p4, vR b1, vI fv, vI tv, vI kv, vI v43, vI v46, vI 3, vR b140, .unset, .unset] [iI v43, iR b1, iI 2, iR b140])) _
      refine XS.lloadN X152.here hx rfl (hb hby at_236) rfl ?_
      show Steps _ _ _ (T152.setTop (mkF m 237 #[vJ q1, .second, vI p2, vJ q3, .second, vI p4, vR b1, vI fv, vI tv, vI kv, vI v43, vI v46, vI 3, vR b140, .unset, .unset] [iJ q3, iI v43, iR b1, iI 2, iR b140])) _
      refine XS.iconst X152.here hx rfl (hb hby at_237) ?_
      show Steps _ _ _ (T152.setTop (mkF m 238 #[vJ q1, .second, vI p2, vJ q3, .second, vI p4, vR b1, vI fv, vI tv, vI kv, vI v43, vI v46, vI 3, vR b140, .unset, .unset] [iI 2, iJ q3, iI v43, iR b1, iI 2, iR b140])) _
      refine XS.iload X152.here hx rfl (hb hby at_238) rfl ?_
      show Steps _ _ _ (T152.setTop (mkF m 240 #[vJ q1, .second, vI p2, vJ q3, .second, vI p4, vR b1, vI fv, vI tv, vI kv, vI v43, vI v46, vI 3, vR b140, .unset, .unset] [iI p4, iI 2, iJ q3, iI v43, iR b1, iI 2, iR b140])) _
      refine st153 _ ?_
      rw [← hnbt2]
      show Steps _ _ _ (T153.setTop (mkF m 243 #[vJ q1, .second, vI p2, vJ q3, .second, vI p4, vR b1, vI fv, vI tv, vI kv, vI v43, vI v46, vI 3, vR b140, .unset, .unset] [iI nbt2, iI 2, iR b140])) _
      refine st158 _ ?_
      show Steps _ _ _ (T158.setTop (mkF m 244 #[vJ q1, .second, vI p2, vJ q3, .second, vI p4, vR b1, vI fv, vI tv, vI kv, vI v43, vI v46, vI 3, vR b140, .unset, .unset] [])) _
      refine st159 _ ?_
      show Steps _ _ _ (T159.setTop (mkF m 247 #[vJ q1, .second, vI p2, vJ q3, .second, vI p4, vR b1, vI fv, vI tv, vI kv, vI v43, vI v46, vI 3, vR b140, .unset, .unset] [iR b159])) _
      refine XS.dup X159.here hx rfl (hb hby at_247) rfl rfl ?_
      show Steps _ _ _ (T159.setTop (mkF m 248 #[vJ q1, .second, vI p2, vJ q3, .second, vI p4, vR b1, vI fv, vI tv, vI kv, vI v43, vI v46, vI 3, vR b140, .unset, .unset] [iR b159, iR b159])) _
      refine st161.trans ?_
      show Steps _ _ _ (T161.setTop (mkF m 251 #[vJ q1, .second, vI p2, vJ q3, .second, vI p4, vR b1, vI fv, vI tv, vI kv, vI v43, vI v46, vI 3, vR b140, .unset, .unset] [iR b159])) _
      refine XS.astore X161.here hx rfl (hb hby at_251) rfl rfl (l' := #[vJ q1, .second, vI p2, vJ q3, .second, vI p4, vR b1, vI fv, vI tv, vI kv, vI v43, vI v46, vI 3, vR b140, vR b159, .unset]) rfl ?_
      show Steps _ _ _ (T161.setTop (mkF m 253 #[vJ q1, .second, vI p2, vJ q3, .second, vI p4, vR b1, vI fv, vI tv, vI kv, vI v43, vI v46, vI 3, vR b140, vR b159, .unset] [])) _
      refine XS.aload X161.here hx rfl (hb hby at_253) rfl rfl ?_
      show Steps _ _ _ (T161.setTop (mkF m 255 #[vJ q1, .second, vI p2, vJ q3, .second, vI p4, vR b1, vI fv, vI tv, vI kv, vI v43, vI v46, vI 3, vR b140, vR b159, .unset] [iR b159])) _
      refine XS.aload X161.here hx rfl (hb hby at_255) rfl rfl ?_
      show Steps _ _ _ (T161.setTop (mkF m 257 #[vJ q1, .second, vI p2, vJ q3, .second, vI p4, vR b1, vI fv, vI tv, vI kv, vI v43, vI v46, vI 3, vR b140, vR b159, .unset] [iR b1, iR b159])) _
      refine XS.iload X161.here hx rfl (hb hby at_257) rfl ?_
      show Steps _ _ _ (T161.setTop (mkF m 259 #[vJ q1, .second, vI p2, vJ q3, .second, vI p4, vR b1, vI fv, vI tv, vI kv, vI v43, vI v46, vI 3, vR b140, vR b159, .unset] [iI fv, iR b1, iR b159])) _
      refine XS.iload X161.here hx rfl (hb hby at_259) rfl ?_
      show Steps _ _ _ (T161.setTop (mkF m 261 #[vJ q1, .second, vI p2, vJ q3, .second, vI p4, vR b1, vI fv, vI tv, vI kv, vI v43, vI v46, vI 3, vR b140, vR b159, .unset] [iI tv, iI fv, iR b1, iR b159])) _
      refine st164.trans ?_
      show Steps _ _ _ (T164.setTop (mkF m 264 #[vJ q1, .second, vI p2, vJ q3, .second, vI p4, vR b1, vI fv, vI tv, vI kv, vI v43, vI v46, vI 3, vR b140, vR b159, .unset] [])) _
      refine XS.iload X164.here hx rfl (hb hby at_264) rfl ?_
      show Steps _ _ _ (T164.setTop (mkF m 266 #[vJ q1, .second, vI p2, vJ q3, .second, vI p4, vR b1, vI fv, vI tv, vI kv, vI v43, vI v46, vI 3, vR b140, vR b159, .unset] [iI v46])) _
      refine XS.iload X164.here hx rfl (hb hby at_266) rfl ?_
      show Steps _ _ _ (T164.setTop (mkF m 268 #[vJ q1, .second, vI p2, vJ q3, .second, vI p4, vR b1, vI fv, vI tv, vI kv, vI v43, vI v46, vI 3, vR b140, vR b159, .unset] [iI v43, iI v46])) _
      refine XS.isub X164.here hx rfl (hb hby at_268) rfl ?_
      show Steps _ _ _ (T164.setTop (mkF m 269 #[vJ q1, .second, vI p2, vJ q3, .second, vI p4, vR b1, vI fv, vI tv, vI kv, vI v43, vI v46, vI 3, vR b140, vR b159, .unset] [iI (v46 - v43)])) _
      refine XS.iload X164.here hx rfl (hb hby at_269) rfl ?_
      show Steps _ _ _ (T164.setTop (mkF m 271 #[vJ q1, .second, vI p2, vJ q3, .second, vI p4, vR b1, vI fv, vI tv, vI kv, vI v43, vI v46, vI 3, vR b140, vR b159, .unset] [iI 3, iI (v46 - v43)])) _
      refine st167 _ ?_
      show Steps _ _ _ (T167.setTop (mkF m 337 #[vJ q1, .second, vI p2, vJ q3, .second, vI p4, vR b1, vI fv, vI tv, vI kv, vI v43, vI v46, vI 3, vR b140, vR b159, .unset] [iI v166])) _
      refine XS.istore X167.here hx rfl (hb hby at_337) rfl (l' := #[vJ q1, .second, vI p2, vJ q3, .second, vI p4, vR b1, vI fv, vI tv, vI kv, vI v43, vI v46, vI 3, vR b140, vR b159, vI v166]) rfl ?_
      show Steps _ _ _ (T167.setTop (mkF m 339 #[vJ q1, .second, vI p2, vJ q3, .second, vI p4, vR b1, vI fv, vI tv, vI kv, vI v43, vI v46, vI 3, vR b140, vR b159, vI v166] [])) _
      refine XS.aload X167.here hx rfl (hb hby at_339) rfl rfl ?_
      show Steps _ _ _ (T167.setTop (mkF m 341 #[vJ q1, .second, vI p2, vJ q3, .second, vI p4, vR b1, vI fv, vI tv, vI kv, vI v43, vI v46, vI 3, vR b140, vR b159, vI v166] [iR b159])) _
      refine XS.iload X167.here hx rfl (hb hby at_341) rfl ?_
      show Steps _ _ _ (T167.setTop (mkF m 343 #[vJ q1, .second, vI p2, vJ q3, .second, vI p4, vR b1, vI fv, vI tv, vI kv, vI v43, vI v46, vI 3, vR b140, vR b159, vI v166] [iI kv, iR b159])) _
      refine XS.aload X167.here hx rfl (hb hby at_343) rfl rfl ?_
      show Steps _ _ _ (T167.setTop (mkF m 345 #[vJ q1, .second, vI p2, vJ q3, .second, vI p4, vR b1, vI fv, vI tv, vI kv, vI v43, vI v46, vI 3, vR b140, vR b159, vI v166] [iR b140, iI kv, iR b159])) _
      refine st191.trans ?_
      show Steps _ _ _ (T191.setTop (mkF m 348 #[vJ q1, .second, vI p2, vJ q3, .second, vI p4, vR b1, vI fv, vI tv, vI kv, vI v43, vI v46, vI 3, vR b140, vR b159, vI v166] [iI (own_is_3 kv fv tv (nar .byte nb0) (nar .byte nb1) (nar .byte nb2) (nar .byte v17) (nar .byte nb4) (nar .byte nb5) (nar .byte nb6) (nar .byte nbt0) (nar .byte nbt1) (nar .byte nbt2))])) _
      refine XS.iload X191.here hx rfl (hb hby at_348) rfl ?_
      show Steps _ _ _ (T191.setTop (mkF m 350 #[vJ q1, .second, vI p2, vJ q3, .second, vI p4, vR b1, vI fv, vI tv, vI kv, vI v43, vI v46, vI 3, vR b140, vR b159, vI v166] [iI v166, iI (own_is_3 kv fv tv (nar .byte nb0) (nar .byte nb1) (nar .byte nb2) (nar .byte v17) (nar .byte nb4) (nar .byte nb5) (nar .byte nb6) (nar .byte nbt0) (nar .byte nbt1) (nar .byte nbt2))])) _
      refine XS.icmpNo X191.here hx rfl (hb hby at_350) rfl (teq hh194).2 ?_
      show Steps _ _ _ (T191.setTop (mkF m 353 #[vJ q1, .second, vI p2, vJ q3, .second, vI p4, vR b1, vI fv, vI tv, vI kv, vI v43, vI v46, vI 3, vR b140, vR b159, vI v166] [])) _
      refine XS.iconst X191.here hx rfl (hb hby at_353) ?_
      show Steps _ _ _ (T191.setTop (mkF m 354 #[vJ q1, .second, vI p2, vJ q3, .second, vI p4, vR b1, vI fv, vI tv, vI kv, vI v43, vI v46, vI 3, vR b140, vR b159, vI v166] [iI 1])) _
      refine XS.goto X191.here hx rfl (pc0 := 354) (pc' := 358) rfl (hb hby at_354) (by decide) (by decide) ?_
      show Steps _ _ _ (T191.setTop (mkF m 358 #[vJ q1, .second, vI p2, vJ q3, .second, vI p4, vR b1, vI fv, vI tv, vI kv, vI v43, vI v46, vI 3, vR b140, vR b159, vI v166] [iI 1])) _
      exact retN X191 hx (t := .boolean) Bd.returns (by simp) (hb hby at_358) hr
    · show Q0 Z q1 p2 q3 p4 h0 n0 _ T191.heap _
      rw [e191]
      exact ⟨rfl, N164⟩
set_option maxRecDepth 65536 in
set_option maxHeartbeats 40000000 in
theorem comes_1 {Post : Tables → Env → Array Value → State → Outcome → State → Prop} (hpost : ∀ tb e args s v u, (limb_1_1.after args s (.returned v) u = true ∧ limb_1_2.after args s (.returned v) u = true ∧ True) → FrameEnd s (.returned v) u (Jvm.fieldLocs frame_1_writes args s ++ Jvm.arrayLocs frame_1_arrays args s ++ Jvm.staticLocs frame_1_statics s) 24 192 → Post tb e args s (.returned v) u) :
    ArmFor flags0 classFile x code maxLocals ret World_1 tables_1 room_1 Calls_1 rest_1 Pre_1 Post := by
  intro l hfl _ _ p e ha hc hk s m args below hf hA hF happ hP
  obtain ⟨hcalls, hrest, hpre⟩ := hP
  obtain ⟨-, -, -, hnamed, -, -, -, hat⟩ := (Spec.applies_iff hf).mp happ
  obtain ⟨hg, hn⟩ := and_e (Cond.before_iff.mp (show (Jvm.Cond.and given_1 narrow_1).before args s = true from hpre))
  obtain ⟨gc, gr0⟩ := and_e hg
  obtain ⟨ga0, gr1⟩ := and_e gr0
  obtain ⟨ga1, gr2⟩ := and_e gr1
  obtain ⟨ga2, gr3⟩ := and_e gr2
  obtain ⟨w0, w1, w2, w3, rfl⟩ : ∃ w0 w1 w2 w3 : Value, args = #[w0, w1, w2, w3] := by
    have hs : args.size = 4 := by simpa [Cond.value, given_1] using gc
    obtain ⟨L⟩ := args
    match L, hs with
    | [w0, w1, w2, w3], _ => exact ⟨w0, w1, w2, w3, rfl⟩
  have hw := fun d (hd : d ∈ tables_1) => atoms_spec (ws := Jvm.Cond.code x code maxLocals ret :: tables_1) hat d (List.mem_cons_of_mem _ hd)
  have hfit : Fit s := fun {y c} hc i hi => by
    obtain ⟨ha, rfl⟩ := Array.getElem?_eq_some_iff.mp hc
    have q := List.all_eq_true.mp ((Array.all_eq_true_iff_forall_mem.mp hF) _ (Array.getElem_mem ha)) i (List.mem_range.mpr hi)
    simpa [Array.getElem?_eq_getElem hi] using q
  obtain ⟨i0, ei0⟩ := isL_v ga0
  obtain rfl : w0 = (.long i0) := Option.some.inj ei0
  obtain ⟨i1, ei1⟩ := is_v ga1
  obtain rfl : w1 = (.int i1) := Option.some.inj ei1
  obtain ⟨i2, ei2⟩ := isL_v ga2
  obtain rfl : w2 = (.long i2) := Option.some.inj ei2
  obtain ⟨i3, ei3⟩ := is_v gr3
  obtain rfl : w3 = (.int i3) := Option.some.inj ei3
  obtain ⟨n, o, h1, h2, h3, _, L, rfl, Qv, hq⟩ := rm0 l s _ hw tables_1 i0 i1 i2 i3  s.heap s.heap.size (Nat.le_refl _)  p e ha hc hk s m _ below hf ((Spec.applies_iff_loose hf).mp happ).1 ⟨rfl, State.Warmed39.refl s, rfl⟩ trivial
  obtain ⟨rfl, N⟩ := Qv
  refine ⟨n, _, h1, h2, h3, hpost _ _ _ _ _ _ ⟨Cond.after_iff.mpr rfl, Cond.after_iff.mpr (eq_i res_at (Term.int_eval (1)) rfl), trivial⟩ ⟨hq.1, hq.2.1, (hq.2.2.sift fun y hy => Or.inr (N y hy)).mono (by decide) (by decide)⟩⟩
theorem main_1_1 : Claimed_1_1 := comes_1 fun _ _ _ _ _ _ h hF => ⟨h.1, hF⟩
theorem main_1_2 : Claimed_1_2 := comes_1 fun _ _ _ _ _ _ h hF => ⟨h.2.1, hF⟩
end Jvm.Pilot.@@N@@
namespace Jvm.Pilot.@@N@@
open Jvm Jvm.ClassFile Sem Op Lib Jvm.Free Jvm.Stand Jvm.Pilot.@@N@@.Jvm.D
/-! MADE BY PROGRAM (witnessworld.py) out of the Statement's table words and the real class files: 11 classes; the members and pool entries that the words name. The judged class is class 1, her method 3. -/
namespace start1
open Jvm.ClassFile
def u (s : String) : CpInfo := .utf8 (stringToUtf16 s)
/-- a pool by its gaps: so many unusable entries, then the entry; so many at the end -/
def gap : Nat → List CpInfo → List CpInfo
  | 0, r => r
  | n + 1, r => .unusable :: gap n r
def poolList (es : List (Nat × CpInfo)) (last : Nat) : List CpInfo := es.foldr (fun e r => gap e.1 (e.2 :: r)) (gap last [])
def pool (es : List (Nat × CpInfo)) (last : Nat) : Array CpInfo := ⟨poolList es last⟩
def fileOf (pool : Array CpInfo) (this : Nat) (attrs : Array Attribute := #[]) (ms : Array MethodInfo := #[]) (fl : Nat := 33) (sup : Nat := 0) (ifs : Array Nat := #[]) (fds : Array FieldInfo := #[]) : ClassFile where
  minorVersion := 0
  majorVersion := 65
  constantPool := pool
  accessFlags := fl
  thisClass := this
  superClass := sup
  interfaces := ifs
  fields := fds
  methods := ms
  attributes := attrs
def plain (name : String) (sup : Option ClassId) : Class where
  name := name
  kind := .ordinary
  loader := none
  accessFlags := 33
  super := sup
  interfaces := #[]
  cf := none
  fields := #[]
  methods := #[]
  instanceTypes := #[]
  staticTypes := #[]
  resolved := #[]
  callSites := []
  init := .initialized
  statics := none
  mirror := none

def pool0 : Array CpInfo := pool [(5, u "<init>"), (0, u "()V"), (1, .class_ 10), (1, u "java/lang/Object")] 113

def k0c0 : Code := { maxStack := 0, maxLocals := 1, code := object_method_1_code, exceptionTable := #[], attributes := #[] }
def k0m0 : Method := { name := "<init>", desc := "()V", sig := { parameters := [], returnType := none }, accessFlags := 1, code := some k0c0 }
/-- java/lang/Object -/
def k0 : Class := { plain "java/lang/Object" none with
  accessFlags := 33
  interfaces := #[]
  cf := some (fileOf pool0 8 #[] #[{ accessFlags := 1, nameIndex := 5, descriptorIndex := 6, attributes := #[] }] 33 0 #[] #[])
  fields := #[]
  methods := #[k0m0]
  instanceTypes := #[]
  staticTypes := #[]
  resolved := Array.replicate 124 none
  statics := none }

def pool1 : Array CpInfo := pool [(2, .class_ 4), (0, .nameAndType 5 6), (0, u "java/lang/Object"), (0, u "<init>"), (0, u "()V"), (0, .methodref 8 9), (0, .class_ 10), (0, .nameAndType 11 12), (0, u "com/example/tidemine/tidemine/TokensIsPinLaw"), (0, u "nonSep"), (0, u "(JI)B"), (0, .methodref 14 15), (0, .class_ 16), (0, .nameAndType 17 18), (0, u "java/lang/Math"), (0, u "min"), (0, u "(II)I"), (0, .methodref 8 20), (0, .nameAndType 21 22), (0, u "pick"), (0, u "([BIJII)B"), (0, .class_ 24), (0, u "com/example/tidemine/tidemine/TextFormat$Tokens"), (0, .methodref 23 3), (0, .methodref 23 27), (0, .nameAndType 28 29), (0, u "split"), (0, u "([BII)V"), (0, .methodref 23 31), (0, .nameAndType 32 33), (0, u "is"), (0, u "(I[B)Z"), (3, u "law"), (0, u "(JIJI)Z")] 8

def k1m0 : Method := { name := "<init>", desc := "()V", sig := { parameters := [], returnType := none }, accessFlags := 2, code := none }
def k1c1 : Code := { maxStack := 4, maxLocals := 4, code := method_2_code, exceptionTable := #[], attributes := #[] }
def k1m1 : Method := { name := "nonSep", desc := "(JI)B", sig := { parameters := [.long, .int], returnType := some .byte }, accessFlags := 10, code := some k1c1 }
def k1c2 : Code := { maxStack := 4, maxLocals := 6, code := method_3_code, exceptionTable := #[], attributes := #[] }
def k1m2 : Method := { name := "pick", desc := "([BIJII)B", sig := { parameters := [(.array .byte), .int, .long, .int, .int], returnType := some .byte }, accessFlags := 10, code := some k1c2 }
def k1c3 : Code := { maxStack := 8, maxLocals := 16, code := code, exceptionTable := #[], attributes := #[] }
def k1m3 : Method := { name := "law", desc := "(JIJI)Z", sig := { parameters := [.long, .int, .long, .int], returnType := some .boolean }, accessFlags := 9, code := some k1c3 }
/-- com/example/tidemine/tidemine/TokensIsPinLaw -/
def k1 : Class := { plain "com/example/tidemine/tidemine/TokensIsPinLaw" (some 0) with
  accessFlags := 49
  interfaces := #[]
  cf := some (fileOf pool1 8 #[] #[{ accessFlags := 2, nameIndex := 5, descriptorIndex := 6, attributes := #[] }, { accessFlags := 10, nameIndex := 11, descriptorIndex := 12, attributes := #[] }, { accessFlags := 10, nameIndex := 21, descriptorIndex := 22, attributes := #[] }, { accessFlags := 9, nameIndex := 37, descriptorIndex := 38, attributes := #[] }] 49 2 #[] #[])
  fields := #[]
  methods := #[k1m0, k1m1, k1m2, k1m3]
  instanceTypes := #[]
  staticTypes := #[]
  resolved := Array.replicate 47 none
  statics := none }

def pool2 : Array CpInfo := pool [(1, .class_ 2), (0, u "java/lang/Math"), (1, .class_ 6), (1, u "java/lang/Object"), (0, u "<init>"), (0, u "()V"), (89, .class_ 100), (1, u "java/lang/Math$RandomNumberGeneratorHolder"), (71, u "negativeZeroFloatBits"), (0, u "J"), (2, u "negativeZeroDoubleBits"), (24, u "min"), (43, u "$assertionsDisabled"), (0, u "Z"), (88, u "(II)I"), (2, u "twoToTheDoubleScaleDown"), (0, u "D"), (4, u "twoToTheDoubleScaleUp"), (9, u "E"), (3, u "PI"), (2, u "TAU"), (2, u "DEGREES_TO_RADIANS"), (0, u "RADIANS_TO_DEGREES")] 94

def k2m0 : Method := { name := "<init>", desc := "()V", sig := { parameters := [], returnType := none }, accessFlags := 2, code := none }
def k2c1 : Code := { maxStack := 2, maxLocals := 2, code := jdk_29_method_69_code, exceptionTable := #[], attributes := #[] }
def k2m1 : Method := { name := "min", desc := "(II)I", sig := { parameters := [.int, .int], returnType := some .int }, accessFlags := 9, code := some k2c1 }
/-- java/lang/Math -/
def k2 : Class := { plain "java/lang/Math" (some 0) with
  accessFlags := 49
  interfaces := #[]
  cf := some (fileOf pool2 1 #[.nestMembers #[98]] #[{ accessFlags := 2, nameIndex := 7, descriptorIndex := 8, attributes := #[] }, { accessFlags := 9, nameIndex := 201, descriptorIndex := 335, attributes := #[] }] 49 4 #[] #[{ accessFlags := 25, nameIndex := 354, descriptorIndex := 339, attributes := #[] }, { accessFlags := 25, nameIndex := 358, descriptorIndex := 339, attributes := #[] }, { accessFlags := 25, nameIndex := 361, descriptorIndex := 339, attributes := #[] }, { accessFlags := 26, nameIndex := 364, descriptorIndex := 339, attributes := #[] }, { accessFlags := 26, nameIndex := 365, descriptorIndex := 339, attributes := #[] }, { accessFlags := 26, nameIndex := 172, descriptorIndex := 173, attributes := #[] }, { accessFlags := 26, nameIndex := 176, descriptorIndex := 173, attributes := #[] }, { accessFlags := 8, nameIndex := 344, descriptorIndex := 339, attributes := #[] }, { accessFlags := 8, nameIndex := 338, descriptorIndex := 339, attributes := #[] }, { accessFlags := 4120, nameIndex := 245, descriptorIndex := 246, attributes := #[] }])
  fields := #[{ name := "E", type := .double, accessFlags := 25, slot := 0, constantValue := 0 }, { name := "PI", type := .double, accessFlags := 25, slot := 1, constantValue := 0 }, { name := "TAU", type := .double, accessFlags := 25, slot := 2, constantValue := 0 }, { name := "DEGREES_TO_RADIANS", type := .double, accessFlags := 26, slot := 3, constantValue := 0 }, { name := "RADIANS_TO_DEGREES", type := .double, accessFlags := 26, slot := 4, constantValue := 0 }, { name := "negativeZeroFloatBits", type := .long, accessFlags := 26, slot := 5, constantValue := 0 }, { name := "negativeZeroDoubleBits", type := .long, accessFlags := 26, slot := 6, constantValue := 0 }, { name := "twoToTheDoubleScaleUp", type := .double, accessFlags := 8, slot := 7, constantValue := 0 }, { name := "twoToTheDoubleScaleDown", type := .double, accessFlags := 8, slot := 8, constantValue := 0 }, { name := "$assertionsDisabled", type := .boolean, accessFlags := 4120, slot := 9, constantValue := 0 }]
  methods := #[k2m0, k2m1]
  instanceTypes := #[]
  staticTypes := #[.double, .double, .double, .double, .double, .long, .long, .double, .double, .boolean]
  resolved := Array.replicate 460 none
  statics := none }

def pool3 : Array CpInfo := pool [(1, .methodref 2 3), (0, .class_ 4), (0, .nameAndType 5 6), (0, u "java/lang/Object"), (0, u "<init>"), (0, u "()V"), (0, .fieldref 8 9), (0, .class_ 10), (0, .nameAndType 11 12), (0, u "com/example/tidemine/tidemine/TextFormat$Tokens"), (0, u "starts"), (0, u "[I"), (0, .fieldref 8 14), (0, .nameAndType 15 12), (0, u "ends"), (0, .fieldref 8 17), (0, .nameAndType 18 19), (0, u "line"), (0, u "[B"), (0, .fieldref 8 21), (0, .nameAndType 22 23), (0, u "count"), (0, u "I"), (0, .methodref 25 26), (0, .class_ 27), (0, .nameAndType 28 29), (0, u "com/example/tidemine/tidemine/TextFormat"), (0, u "isSeparator"), (0, u "(B)Z"), (19, u "split"), (0, u "([BII)V"), (6, u "is"), (0, u "(I[B)Z")] 7

def k3c0 : Code := { maxStack := 2, maxLocals := 1, code := prog_41_method_1_code, exceptionTable := #[], attributes := #[] }
def k3m0 : Method := { name := "<init>", desc := "()V", sig := { parameters := [], returnType := none }, accessFlags := 0, code := some k3c0 }
def k3c1 : Code := { maxStack := 4, maxLocals := 6, code := prog_41_method_2_code, exceptionTable := #[], attributes := #[] }
def k3m1 : Method := { name := "split", desc := "([BII)V", sig := { parameters := [(.array .byte), .int, .int], returnType := none }, accessFlags := 0, code := some k3c1 }
def k3c2 : Code := { maxStack := 3, maxLocals := 5, code := prog_41_method_7_code, exceptionTable := #[], attributes := #[] }
def k3m2 : Method := { name := "is", desc := "(I[B)Z", sig := { parameters := [.int, (.array .byte)], returnType := some .boolean }, accessFlags := 0, code := some k3c2 }
/-- com/example/tidemine/tidemine/TextFormat$Tokens -/
def k3 : Class := { plain "com/example/tidemine/tidemine/TextFormat$Tokens" (some 0) with
  accessFlags := 48
  interfaces := #[]
  cf := some (fileOf pool3 8 #[.nestHost 25] #[{ accessFlags := 0, nameIndex := 5, descriptorIndex := 6, attributes := #[] }, { accessFlags := 0, nameIndex := 49, descriptorIndex := 50, attributes := #[] }, { accessFlags := 0, nameIndex := 57, descriptorIndex := 58, attributes := #[] }] 48 2 #[] #[{ accessFlags := 2, nameIndex := 18, descriptorIndex := 19, attributes := #[] }, { accessFlags := 2, nameIndex := 11, descriptorIndex := 12, attributes := #[] }, { accessFlags := 2, nameIndex := 15, descriptorIndex := 12, attributes := #[] }, { accessFlags := 2, nameIndex := 22, descriptorIndex := 23, attributes := #[] }])
  fields := #[{ name := "line", type := (.array .byte), accessFlags := 2, slot := 0, constantValue := 0 }, { name := "starts", type := (.array .int), accessFlags := 2, slot := 1, constantValue := 0 }, { name := "ends", type := (.array .int), accessFlags := 2, slot := 2, constantValue := 0 }, { name := "count", type := .int, accessFlags := 2, slot := 3, constantValue := 0 }]
  methods := #[k3m0, k3m1, k3m2]
  instanceTypes := #[(.array .byte), (.array .int), (.array .int), .int]
  staticTypes := #[]
  resolved := Array.replicate 66 none
  statics := none }

def pool4 : Array CpInfo := pool [(2, .class_ 4), (1, u "java/lang/Object"), (0, u "<init>"), (0, u "()V"), (1, .class_ 10), (1, u "com/example/tidemine/tidemine/TextFormat"), (1, u "(B)Z"), (2, u "isSeparator"), (12, .class_ 29), (0, u "com/example/tidemine/tidemine/TextFormat$Tokens"), (33, u "BYTE_ORDER_MARK"), (0, u "[B"), (16, u "EXACT_POWERS_OF_TEN"), (0, u "[D"), (9, u "UNIT_DECIMAL"), (0, u "Ljava/lang/String;"), (3, u "EXACT_MANTISSA"), (0, u "J"), (0, u "MAX_SIGNIFICANT_DIGITS"), (0, u "I")] 19

def k4m0 : Method := { name := "<init>", desc := "()V", sig := { parameters := [], returnType := none }, accessFlags := 2, code := none }
def k4c1 : Code := { maxStack := 2, maxLocals := 1, code := prog_40_method_4_code, exceptionTable := #[], attributes := #[] }
def k4m1 : Method := { name := "isSeparator", desc := "(B)Z", sig := { parameters := [.byte], returnType := some .boolean }, accessFlags := 10, code := some k4c1 }
/-- com/example/tidemine/tidemine/TextFormat -/
def k4 : Class := { plain "com/example/tidemine/tidemine/TextFormat" (some 0) with
  accessFlags := 48
  interfaces := #[]
  cf := some (fileOf pool4 8 #[.nestMembers #[28]] #[{ accessFlags := 2, nameIndex := 5, descriptorIndex := 6, attributes := #[] }, { accessFlags := 10, nameIndex := 15, descriptorIndex := 12, attributes := #[] }] 48 2 #[] #[{ accessFlags := 24, nameIndex := 92, descriptorIndex := 93, attributes := #[] }, { accessFlags := 26, nameIndex := 63, descriptorIndex := 64, attributes := #[] }, { accessFlags := 26, nameIndex := 97, descriptorIndex := 98, attributes := #[] }, { accessFlags := 26, nameIndex := 99, descriptorIndex := 100, attributes := #[] }, { accessFlags := 26, nameIndex := 81, descriptorIndex := 82, attributes := #[] }])
  fields := #[{ name := "UNIT_DECIMAL", type := (.object "java/lang/String"), accessFlags := 24, slot := 0, constantValue := 0 }, { name := "BYTE_ORDER_MARK", type := (.array .byte), accessFlags := 26, slot := 1, constantValue := 0 }, { name := "EXACT_MANTISSA", type := .long, accessFlags := 26, slot := 2, constantValue := 0 }, { name := "MAX_SIGNIFICANT_DIGITS", type := .int, accessFlags := 26, slot := 3, constantValue := 0 }, { name := "EXACT_POWERS_OF_TEN", type := (.array .double), accessFlags := 26, slot := 4, constantValue := 0 }]
  methods := #[k4m0, k4m1]
  instanceTypes := #[]
  staticTypes := #[(.object "java/lang/String"), (.array .byte), .long, .int, (.array .double)]
  resolved := Array.replicate 120 none
  statics := none }

def pool5 : Array CpInfo := pool [(1, u "java/lang/Cloneable"), (0, .class_ 1), (0, u "java/lang/Object"), (0, .class_ 3)] 3

/-- java/lang/Cloneable -/
def k5 : Class := { plain "java/lang/Cloneable" (some 0) with
  accessFlags := 1537
  interfaces := #[]
  cf := some (fileOf pool5 2 #[] #[] 1537 4 #[] #[])
  fields := #[]
  methods := #[]
  instanceTypes := #[]
  staticTypes := #[]
  resolved := Array.replicate 8 none
  statics := none }

def pool6 : Array CpInfo := pool [(1, u "java/io/Serializable"), (0, .class_ 1), (0, u "java/lang/Object"), (0, .class_ 3)] 3

/-- java/io/Serializable -/
def k6 : Class := { plain "java/io/Serializable" (some 0) with
  accessFlags := 1537
  interfaces := #[]
  cf := some (fileOf pool6 2 #[] #[] 1537 4 #[] #[])
  fields := #[]
  methods := #[]
  instanceTypes := #[]
  staticTypes := #[]
  resolved := Array.replicate 8 none
  statics := none }

/-- the primitive byte -/
def k7 : Class := { plain "byte" none with kind := .primitive 'B', accessFlags := 0x411 }
/-- [B -/
def k8 : Class := { plain "[B" (some 0) with kind := .array 7 .byte, interfaces := #[5, 6], accessFlags := 1041 }

/-- the primitive int -/
def k9 : Class := { plain "int" none with kind := .primitive 'I', accessFlags := 0x411 }
/-- [I -/
def k10 : Class := { plain "[I" (some 0) with kind := .array 9 .int, interfaces := #[5, 6], accessFlags := 1041 }

def heap : Heap := #[]
def classes : Array Class := #[k0, k1, k2, k3, k4, k5, k6, k7, k8, k9, k10]
def interned : List (Array UInt16 × Addr) := []
def slotsUsed : Nat := 0
def theMethod : MethodId := ⟨1, 3⟩
def args0 : Array Value := #[.long 5, .int 3, .long 3, .int 1]
def aboutOver (below : List Frame) : State where
  vm := { classes := classes, interned := interned.toArray }
  heap := heap
  slotsUsed := slotsUsed
  threads := #[{ frames := .invoking theMethod args0 :: below }]
def below0 : List Frame := [.native { method := ⟨0, 0⟩, args := #[] }]
def about1 : State := aboutOver below0
def p0 : Program := .bare "" "" ""
def e0 : Env := launch0.env 0 0 0
theorem w_frames : about1.frames = Frame.invoking theMethod args0 :: below0 := rfl
set_option maxRecDepth 65536 in
theorem w_args : argsFit about1.vm theMethod args0 = true := by decide +kernel
set_option maxRecDepth 65536 in
theorem w_heap : heapFits about1 = true := by decide +kernel
set_option maxRecDepth 65536 in
theorem w_runnable : about1.curStatus? = some .runnable := by decide +kernel
set_option maxRecDepth 65536 in
theorem w_alone : about1.alone = true := by decide +kernel
set_option maxRecDepth 65536 in
theorem w_named : about1.methodNamed? x = some theMethod := by decide +kernel
set_option maxRecDepth 65536 in
theorem w_hears : about1.hears theMethod below0 = true := by decide +kernel
set_option maxRecDepth 65536 in
theorem w_ripe : about1.ripe theMethod args0 below0 = true := by decide +kernel
theorem w_running : about1.status = .running := rfl
set_option maxRecDepth 65536 in
theorem w_room : about1.hasRoom e0.platform room_1 = true :=
  launch0.hasRoom_least _ room_1 (by decide +kernel) (by decide +kernel) (by decide +kernel) (by decide +kernel) (by decide +kernel) (by decide +kernel)
theorem allAtoms_all (ts : List Jvm.Cond) (a : Array Jvm.Value) (st : Jvm.State) : (allAtoms ts).before a st = ts.all (fun c => c.before a st) := by
  induction ts with
  | nil => rfl
  | cons c t ih =>
    show (Jvm.Cond.and c (allAtoms t)).before a st = _
    rw [Jvm.Cond.before_and, ih, List.all_cons]
def words1 : List Jvm.Cond := Jvm.Cond.code x code maxLocals ret :: tables_1
/-- a 'code' word, met by the world's own term for the bytes: nothing is compared byte by byte -/
theorem code_word {y : MethodName} {bytes : ByteArray} {mx : Nat} {rt : Option FieldType} {a : Array Value} {s : State} {m : MethodId} {meth : Method} {c : Code} (h1 : s.methodNamed? y = some m) (h2 : s.vm.method? m = some meth) (h3 : meth.code = some c) (h4 : c.code = bytes)
    (h5 : (c.maxLocals == mx && c.exceptionTable.isEmpty && decide (c.maxStack ≤ mostOperands) && decide (meth.sig.returnType = rt) && !meth.locks && decide (parseMethodDescriptor y.desc = some meth.sig)) = true) : (Jvm.Cond.code y bytes mx rt).before a s = true := by
  simp only [Bool.and_eq_true, beq_iff_eq, Bool.not_eq_true', decide_eq_true_eq] at h5
  obtain ⟨⟨⟨⟨⟨g1, g2⟩, g3⟩, g4⟩, g5⟩, g6⟩ := h5
  simp [Cond.before, Cond.holds, Cond.value, h1, h2, h3, h4, g1, g2, g3, g4, g5, g6]
def isCode : Jvm.Cond → Bool
  | .code _ _ _ _ => true
  | _ => false
theorem all_split {L : List Jvm.Cond} {P : Jvm.Cond → Bool} (h1 : L.all (fun c => isCode c || P c) = true) (h2 : ∀ c ∈ L.filter isCode, P c = true) : L.all P = true := by
  refine List.all_eq_true.mpr fun c hc => ?_
  have h := List.all_eq_true.mp h1 c hc
  rcases Bool.eq_false_or_eq_true (isCode c) with hi | hi
  · exact h2 c (List.mem_filter.mpr ⟨hc, hi⟩)
  · simpa [hi] using h
set_option maxRecDepth 65536 in
theorem w_c0 : (Jvm.Cond.code x code maxLocals ret).before args0 about1 = true := code_word (m := ⟨1, 3⟩) (meth := k1m3) (c := k1c3) (by decide +kernel) rfl rfl rfl (by decide +kernel)
set_option maxRecDepth 65536 in
theorem w_c1 : (Jvm.Cond.code ({ cls := "com/example/tidemine/tidemine/TokensIsPinLaw", name := "nonSep", desc := "(JI)B" } : Jvm.MethodName) method_2_code (4 : Nat) (Option.some Jvm.ClassFile.FieldType.byte)).before args0 about1 = true := code_word (m := ⟨1, 1⟩) (meth := k1m1) (c := k1c1) (by decide +kernel) rfl rfl rfl (by decide +kernel)
set_option maxRecDepth 65536 in
theorem w_c2 : (Jvm.Cond.code ({ cls := "java/lang/Math", name := "min", desc := "(II)I" } : Jvm.MethodName) jdk_29_method_69_code (2 : Nat) (Option.some Jvm.ClassFile.FieldType.int)).before args0 about1 = true := code_word (m := ⟨2, 1⟩) (meth := k2m1) (c := k2c1) (by decide +kernel) rfl rfl rfl (by decide +kernel)
set_option maxRecDepth 65536 in
theorem w_c3 : (Jvm.Cond.code ({ cls := "com/example/tidemine/tidemine/TextFormat$Tokens", name := "<init>", desc := "()V" } : Jvm.MethodName) prog_41_method_1_code (1 : Nat) (Option.none : Option Jvm.ClassFile.FieldType)).before args0 about1 = true := code_word (m := ⟨3, 0⟩) (meth := k3m0) (c := k3c0) (by decide +kernel) rfl rfl rfl (by decide +kernel)
set_option maxRecDepth 65536 in
theorem w_c4 : (Jvm.Cond.code ({ cls := "java/lang/Object", name := "<init>", desc := "()V" } : Jvm.MethodName) object_method_1_code (1 : Nat) (Option.none : Option Jvm.ClassFile.FieldType)).before args0 about1 = true := code_word (m := ⟨0, 0⟩) (meth := k0m0) (c := k0c0) (by decide +kernel) rfl rfl rfl (by decide +kernel)
set_option maxRecDepth 65536 in
theorem w_c5 : (Jvm.Cond.code ({ cls := "com/example/tidemine/tidemine/TextFormat$Tokens", name := "split", desc := "([BII)V" } : Jvm.MethodName) prog_41_method_2_code (6 : Nat) (Option.none : Option Jvm.ClassFile.FieldType)).before args0 about1 = true := code_word (m := ⟨3, 1⟩) (meth := k3m1) (c := k3c1) (by decide +kernel) rfl rfl rfl (by decide +kernel)
set_option maxRecDepth 65536 in
theorem w_c6 : (Jvm.Cond.code ({ cls := "com/example/tidemine/tidemine/TextFormat", name := "isSeparator", desc := "(B)Z" } : Jvm.MethodName) prog_40_method_4_code (1 : Nat) (Option.some Jvm.ClassFile.FieldType.boolean)).before args0 about1 = true := code_word (m := ⟨4, 1⟩) (meth := k4m1) (c := k4c1) (by decide +kernel) rfl rfl rfl (by decide +kernel)
set_option maxRecDepth 65536 in
theorem w_c7 : (Jvm.Cond.code ({ cls := "com/example/tidemine/tidemine/TextFormat$Tokens", name := "is", desc := "(I[B)Z" } : Jvm.MethodName) prog_41_method_7_code (5 : Nat) (Option.some Jvm.ClassFile.FieldType.boolean)).before args0 about1 = true := code_word (m := ⟨3, 2⟩) (meth := k3m2) (c := k3c2) (by decide +kernel) rfl rfl rfl (by decide +kernel)
set_option maxRecDepth 65536 in
theorem w_c8 : (Jvm.Cond.code ({ cls := "com/example/tidemine/tidemine/TokensIsPinLaw", name := "pick", desc := "([BIJII)B" } : Jvm.MethodName) method_3_code (6 : Nat) (Option.some Jvm.ClassFile.FieldType.byte)).before args0 about1 = true := code_word (m := ⟨1, 2⟩) (meth := k1m2) (c := k1c2) (by decide +kernel) rfl rfl rfl (by decide +kernel)
def codes1 : List Jvm.Cond := [Jvm.Cond.code x code maxLocals ret, Jvm.Cond.code ({ cls := "com/example/tidemine/tidemine/TokensIsPinLaw", name := "nonSep", desc := "(JI)B" } : Jvm.MethodName) method_2_code (4 : Nat) (Option.some Jvm.ClassFile.FieldType.byte), Jvm.Cond.code ({ cls := "java/lang/Math", name := "min", desc := "(II)I" } : Jvm.MethodName) jdk_29_method_69_code (2 : Nat) (Option.some Jvm.ClassFile.FieldType.int), Jvm.Cond.code ({ cls := "com/example/tidemine/tidemine/TextFormat$Tokens", name := "<init>", desc := "()V" } : Jvm.MethodName) prog_41_method_1_code (1 : Nat) (Option.none : Option Jvm.ClassFile.FieldType), Jvm.Cond.code ({ cls := "java/lang/Object", name := "<init>", desc := "()V" } : Jvm.MethodName) object_method_1_code (1 : Nat) (Option.none : Option Jvm.ClassFile.FieldType), Jvm.Cond.code ({ cls := "com/example/tidemine/tidemine/TextFormat$Tokens", name := "split", desc := "([BII)V" } : Jvm.MethodName) prog_41_method_2_code (6 : Nat) (Option.none : Option Jvm.ClassFile.FieldType), Jvm.Cond.code ({ cls := "com/example/tidemine/tidemine/TextFormat", name := "isSeparator", desc := "(B)Z" } : Jvm.MethodName) prog_40_method_4_code (1 : Nat) (Option.some Jvm.ClassFile.FieldType.boolean), Jvm.Cond.code ({ cls := "com/example/tidemine/tidemine/TextFormat$Tokens", name := "is", desc := "(I[B)Z" } : Jvm.MethodName) prog_41_method_7_code (5 : Nat) (Option.some Jvm.ClassFile.FieldType.boolean), Jvm.Cond.code ({ cls := "com/example/tidemine/tidemine/TokensIsPinLaw", name := "pick", desc := "([BIJII)B" } : Jvm.MethodName) method_3_code (6 : Nat) (Option.some Jvm.ClassFile.FieldType.byte)]
set_option maxRecDepth 65536 in
theorem codes_eq : words1.filter isCode = codes1 := rfl
theorem w_codes : ∀ c ∈ words1.filter isCode, c.before args0 about1 = true := by
  rw [codes_eq]
  intro c hc
  simp only [codes1, List.mem_cons, List.not_mem_nil, or_false] at hc
  rcases hc with rfl | rfl | rfl | rfl | rfl | rfl | rfl | rfl | rfl
  · exact w_c0
  · exact w_c1
  · exact w_c2
  · exact w_c3
  · exact w_c4
  · exact w_c5
  · exact w_c6
  · exact w_c7
  · exact w_c8
set_option maxRecDepth 65536 in
theorem w_t1 : (words1.take 24).all (fun c => isCode c || c.before args0 about1) = true := by decide +kernel
set_option maxRecDepth 65536 in
theorem w_t2 : (words1.drop 24).all (fun c => isCode c || c.before args0 about1) = true := by decide +kernel
theorem w_tables : (allAtoms (Jvm.Cond.code x code maxLocals ret :: tables_1)).before args0 about1 = true := by
  rw [allAtoms_all]
  show words1.all (fun c => c.before args0 about1) = true
  refine all_split ?_ w_codes
  rw [← List.take_append_drop 24 words1, List.all_append, w_t1, w_t2]
  rfl
set_option maxRecDepth 65536 in
theorem w_case : (Jvm.Cond.and given_1 narrow_1).before args0 about1 = true := by decide +kernel
theorem w_applies : (headSpec (Jvm.Cond.code x code maxLocals ret :: tables_1) room_1).applies x e0.platform about1 = true :=
  (Spec.applies_iff w_frames).mpr ⟨w_running, w_runnable, w_alone, w_named, w_hears, w_ripe, w_room, w_tables⟩
theorem atStart : AtStart classFile x code maxLocals ret World_1 tables_1 room_1 Calls_1 rest_1 Pre_1 launch0 p0 e0 about1 theMethod args0 below0 :=
  ⟨lists_1, trivial, launch0.admits_env _ _ _, launch0.least_env, fairChoices_fair.cas, fairChoices_fair.clock, w_frames, w_args, w_heap, w_applies, trivial, trivial, w_case⟩
end start1
theorem witness_1 : WitnessClaimed_1 := ⟨start1.p0, start1.e0, start1.about1, start1.theMethod, start1.args0, start1.below0, start1.atStart⟩
end Jvm.Pilot.@@N@@
