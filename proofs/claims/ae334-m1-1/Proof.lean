import JvmDerived
import JvmDerived.Pilot.@@N@@Statement
import JvmDerived.Pilot.@@N@@Code
set_option linter.unusedVariables false
set_option linter.unusedSimpArgs false
set_option maxRecDepth 65536
set_option maxHeartbeats 40000000
namespace Jvm.RoadKit
open Sem ClassFile Op Lib Jvm.Stand Jvm.Free Jvm.LawKit
section New
variable {p : Program} {l : Launch} {e : Env} {R : Room} {s : State} {m : MethodId} {args : Array Value} {below : List Frame} {meth : Method} {c : Code} {T : State} {locs : List Loc} {cells slots : Nat}
theorem retI (X : Stand p l e R s m args below meth c T locs cells slots) (hx : p.tables.exec = Jvm.exec) {pc : Nat} {Ls : Array Slot} {z : Int32} {rest : List Value} (hret : meth.sig.returnType = some .int) (hd : decode c.code pc = .ok (.ireturn, 1)) {fs : List Frame}
    (hl : ∀ (f : JFrame) (acts : List Action), f.method = m → f.locked = none → f.entered = [] → (doReturn e (T.setTop f) acts (some (.int z))).1 = T.setFrames fs) : Steps p.tables e below (T.setTop (mkF m pc Ls (.int z :: rest))) (T.setFrames fs) := by
  have hm' : T.vm.method? m = some meth := X.method'
  have hn : narrow .int (.int z) = .int z := rfl
  show Steps p.tables e below (T.setTop { method := m, pc := pc, locals := Ls, stack := _ :: rest, locked := none }) _
  jvm_step X.here [X.here.top, hx, hd, hm', hret, hn]
  first | (intro acts; rw [hl _ acts rfl rfl rfl]) | rw [hl _ _ rfl rfl rfl]
  exact Steps.refl _
abbrev vI (x : Int32) : Slot := .val (.int x)
abbrev vJ (x : Int64) : Slot := .val (.long x)
abbrev vR (x : Addr) : Slot := .val (.ref x)
abbrev iI (x : Int32) : Value := .int x
abbrev iJ (x : Int64) : Value := .long x
abbrev iR (x : Addr) : Value := .ref x
abbrev SA {tb : Tables} {e : Env} {b : List Frame} {t : State} (T : State) (m : MethodId) (pc : Nat) (L : Array Slot) (S : List Value) : Prop := Steps tb e b (T.setTop (mkF m pc L S)) t
theorem gF {Z : State} {a0 : Array Value} {h : Heap} (X : Stand p l e R s m args below meth c T locs cells slots) (hx : p.tables.exec = Jvm.exec) (hZ : Z.Warmed39 s.vm) {own R0 n d : String} {index : Nat} (hown : s.vm.findClass own = some m.cls) (w : (Cond.fieldLink own index R0 n d).before a0 Z = true)
    (eT : T.heap = h) {a : Addr} {v : Value} (F : Fld Z h a R0 n d v) {g : JFrame} (hg : g.method = m) {rest : List Value} (hs : g.stack = .ref a :: rest) (hd : decode c.code g.pc = .ok (.getfield index, 3)) : ∃ T', Stand p l e R s m args below meth c T' locs cells slots ∧ T'.heap = h ∧ ∀ target, Steps p.tables e below (T'.setTop { g with pc := g.pc + 3, stack := v :: rest }) target → Steps p.tables e below (T.setTop g) target := getF X hx hZ hown (host := "") (Or.inl w) Via.refl eT F hg hs hd
theorem wz {g : JFrame} {rest : List Value} {W : Nat} (h : 2 * g.monitorRoom + (rest.map fun v => v.category).sum = W) : 2 * g.monitorRoom + (rest.map fun v => v.category).sum ≤ W := Nat.le_of_eq h
/-- from one frame to another over the same heap -/
def own_Mid (X : Stand p l e R s m args below meth c T locs cells slots) (h : Heap) (F F' : JFrame) : Prop :=
  ∃ T', Stand p l e R s m args below meth c T' locs cells slots ∧ T'.heap = h ∧ ∀ t, Steps p.tables e below (T'.setTop F') t → Steps p.tables e below (T.setTop F) t
/-- no interface: known of one method of the class, said of another -/
theorem own_nf {s : State} {y z : MethodName} {args : Array Value} (hc : z.cls = y.cls) (h : NotFace s z) (hz : (Cond.instanceMethod z).before args s = true) : NotFace s y := fun r0 h0 => by
  obtain ⟨r1, -, h1, -, -, -⟩ := Cond.instanceMethod_spec hz
  have e1 := findClass_of_methodNamed h0
  have e2 := findClass_of_methodNamed h1
  rw [hc, e1] at e2
  obtain ⟨k, k1, k2⟩ := h r1 h1
  exact ⟨k, by rw [Option.some.inj e2]; exact k1, k2⟩
theorem own_same {s : State} {args : Array Value} {y : MethodName} (hi : (Cond.instanceMethod y).before args s = true) (hnf : NotFace s y) (hy : y.cls ≠ "java/lang/invoke/MethodHandle" ∧ y.cls ≠ "java/lang/invoke/VarHandle") : (Cond.sameMethod y.cls y.cls y.name y.desc).before args s = true := by
  obtain ⟨mk, methM, hnamed, hmethM, -, -⟩ := Cond.instanceMethod_spec hi
  have hfound := State.methodFound?_of_named hnamed hy
  have hc := findClass_of_methodNamed hnamed
  obtain ⟨k, hk, hni⟩ := hnf _ hnamed
  simp [Cond.before, Cond.holds, Cond.value, hc, hk, hni, hfound, hnamed]
/-- a private method is its own choice: its class is made by 'new' -/
theorem own_selPriv {s : State} {args : Array Value} {y : MethodName} {n : Nat} (hi : (Cond.instantiable y.cls n).before args s = true) (hpriv : s.PrivateAt y) (hinst : (Cond.instanceMethod y).before args s = true) (hy : y.cls ≠ "java/lang/invoke/MethodHandle" ∧ y.cls ≠ "java/lang/invoke/VarHandle") : (Cond.selects y.cls y y).before args s = true := by
  obtain ⟨c, k, h1, h2, -, h4, -, -⟩ := Cond.instantiable_spec hi
  exact Stand.selects_self_of_private h1 h2 (Bool.or_eq_false_iff.mp h4).1 hpriv hinst hy
theorem own_selPriv2 {s : State} {args : Array Value} {y : MethodName} (hnf : NotFace s y) (hpriv : s.PrivateAt y) (hinst : (Cond.instanceMethod y).before args s = true) (hy : y.cls ≠ "java/lang/invoke/MethodHandle" ∧ y.cls ≠ "java/lang/invoke/VarHandle") : (Cond.selects y.cls y y).before args s = true := by
  obtain ⟨mk, methM, hnamed, -, -, -⟩ := Cond.instanceMethod_spec hinst
  obtain ⟨k, hk, hni⟩ := hnf _ hnamed
  exact Stand.selects_self_of_private (findClass_of_methodNamed hnamed) hk hni hpriv hinst hy
end New
end Jvm.RoadKit
namespace Jvm.Pilot.@@N@@
open Jvm Jvm.ClassFile Sem Op Lib Jvm.Free Jvm.Stand Jvm.LawKit Jvm.RoadKit Bundle Jvm.Pilot.@@N@@.Jvm.D
theorem ww {a0 : Array Value} {Z : State} (hw : ∀ d ∈ tables_1, d.before a0 Z = true) (i : Nat) {d : Jvm.Cond} (e : tables_1[i]? = some d) : d.before a0 Z = true := hw _ (List.mem_of_getElem? e)
abbrev mn_0 : MethodName := (⟨"java/lang/Integer", "compare", "(II)I"⟩ : MethodName)
abbrev mn_1 : MethodName := (⟨"java/lang/Boolean", "compare", "(ZZ)I"⟩ : MethodName)
abbrev mn_2 : MethodName := (⟨"com/example/tidemine/tidemine/PatternTrie", "search", "(IIZ)I"⟩ : MethodName)
abbrev mn_3 : MethodName := (⟨"com/example/tidemine/tidemine/PatternTrie", "child", "(IIZ)I"⟩ : MethodName)
abbrev mn_4 : MethodName := (⟨"com/example/tidemine/tidemine/PatternTrie", "truncate", "(I)V"⟩ : MethodName)
abbrev mn_5 : MethodName := (⟨"com/example/tidemine/tidemine/PatternTrie", "<init>", "()V"⟩ : MethodName)
abbrev mn_6 : MethodName := (⟨"com/example/tidemine/tidemine/PatternTrie", "size", "()I"⟩ : MethodName)
abbrev mn_7 : MethodName := (⟨"com/example/tidemine/tidemine/PatternTrieTruncatePinLaw", "build", "(Lcom/example/tidemine/tidemine/PatternTrie;IIIIZIIZZZZ)Z"⟩ : MethodName)
theorem pd_0 : parseMethodDescriptor "(II)I" = some ⟨[.int, .int], some .int⟩ := by decide +kernel
theorem pd_1 : parseMethodDescriptor "(ZZ)I" = some ⟨[.boolean, .boolean], some .int⟩ := by decide +kernel
theorem pd_2 : parseMethodDescriptor "(IIZ)I" = some ⟨[.int, .int, .boolean], some .int⟩ := by decide +kernel
theorem pd_3 : parseMethodDescriptor "()V" = some ⟨[], none⟩ := by decide +kernel
theorem pd_4 : parseMethodDescriptor "(Lcom/example/tidemine/tidemine/PatternTrie;IIIIZIIZZZZ)Z" = some ⟨[(.object "com/example/tidemine/tidemine/PatternTrie"), .int, .int, .int, .int, .boolean, .int, .int, .boolean, .boolean, .boolean, .boolean], some .boolean⟩ := by decide +kernel
theorem pd_5 : parseMethodDescriptor "(I)V" = some ⟨[.int], none⟩ := by decide +kernel
theorem pd_6 : parseMethodDescriptor "()I" = some ⟨[], some .int⟩ := by decide +kernel

abbrev own_bs (A : List Int32) : List Value := A.map Value.int
theorem own_shl0 (x : Int32) : x <<< ((0 : Int32) &&& 31) = x := by
  have h := c_ishl x 0 0 (by decide)
  have r1 := rng32 x
  have r2 := rng32 (x <<< ((0 : Int32) &&& 31))
  apply Int32.toInt_inj.mp
  omega
theorem own_z0 : (0 : Int32).toNatClampNeg = 0 := rfl
theorem own_shr0 (x : Int32) : x >>> ((0 : Int32) &&& 31) = x := by
  apply Int32.toInt_inj.mp
  rw [c_ishr x 0 0 (by decide)]; simp
theorem own_bsApp (A B : List Int32) : own_bs (A ++ B) = own_bs A ++ own_bs B := List.map_append
theorem own_rangeB (B : List Int32) (d : Value) : ((List.range B.length).map fun i => (own_bs B).getD (0 + i) d) = own_bs B := by
  apply List.ext_getElem
  · simp
  · intro i h1 h2
    have h3 : i < B.length := by simpa using h1
    simp [List.getD_eq_getElem?_getD, h3]
theorem own_cpy {Z : State} {h : Heap} {b : Addr} {k : ClassId} {cap : Int32} {A B : List Int32} {n sp z : Int32} {m : Nat} (hA : n.toNatClampNeg = A.length) (hs : sp.toNatClampNeg = 0) (hB : z.toNatClampNeg = B.length)
    (F : Arv Z h b k .byte cap ((own_bs A ++ List.replicate m (Value.int (0 : Int32))).take n.toNatClampNeg ++ ((List.range z.toNatClampNeg).map fun i => (own_bs B).getD (sp.toNatClampNeg + i) (.int (0 : Int32))) ++ (own_bs A ++ List.replicate m (Value.int (0 : Int32))).drop (n.toNatClampNeg + z.toNatClampNeg)) (.int (0 : Int32))) : Arv Z h b k .byte cap (own_bs (A ++ B)) (.int (0 : Int32)) := by
  rw [hA, hs, hB, own_rangeB, List.take_left' (by simp), List.drop_append, List.drop_eq_nil_of_le (by simp), List.nil_append, List.drop_replicate, ← own_bsApp] at F
  exact F.pad fun i => (pad_rep _ _ _ i).symm
theorem own_cpN {Z : State} {h : Heap} {b : Addr} {k : ClassId} {cap nc : Int32} {A : List Int32} {m : Nat} (hA : A.length ≤ cap.toNatClampNeg)
    (F : Arv Z h b k .byte nc (([] ++ List.replicate m (Value.int (0 : Int32))).take (0 : Int32).toNatClampNeg ++ ((List.range cap.toNatClampNeg).map fun i => (own_bs A).getD ((0 : Int32).toNatClampNeg + i) (.int (0 : Int32))) ++ ([] ++ List.replicate m (Value.int (0 : Int32))).drop ((0 : Int32).toNatClampNeg + cap.toNatClampNeg)) (.int (0 : Int32))) : Arv Z h b k .byte nc (own_bs A) (.int (0 : Int32)) := by
  refine F.pad fun i => ?_
  rw [own_z0]
  simp only [List.take_zero, List.nil_append, List.drop_replicate, Nat.zero_add]
  rw [pad_rep]
  simp only [List.getD_eq_getElem?_getD, List.getElem?_map]
  by_cases q : i < cap.toNatClampNeg
  · rw [List.getElem?_range q]; simp
  · rw [List.getElem?_eq_none (l := List.range _) (by simpa using q), List.getElem?_eq_none (l := A) (by omega)]; rfl
theorem own_ncne {nc : Int32} (h : ¬ (2147483639 : Int32) < nc) : ¬ nc = (2147483647 : Int32) := fun e => h (by rw [e]; decide)

theorem own_bsget (B : List Int32) (i : Nat) : (own_bs B).getD i (.int (0 : Int32)) = .int (B.getD i 0) := by
  simp only [List.getD_eq_getElem?_getD, List.getElem?_map]
  cases B[i]? <;> rfl
theorem own_bsSet (A : List Int32) (i : Nat) (x : Int32) : (own_bs A).set i (.int x) = own_bs (A.set i x) := List.map_set.symm
theorem own_in16 {j : Int32} (h : ¬ j < (0 : Int32) ∧ j < (16 : Int32)) : j.toNatClampNeg < 16 := by
  have e0 : (0 : Int32).toInt = 0 := rfl
  have e : (16 : Int32).toInt = 16 := rfl
  rw [Int32.lt_iff_toInt_lt, Int32.lt_iff_toInt_lt] at h
  simp only [Int32.toNatClampNeg]; omega
def own_ic (p1 : Int32) (p2 : Int32) : Int32 := (if p1 < p2 then (-1 : Int32) else (if p1 = p2 then (0 : Int32) else (1 : Int32)))
theorem d6_0 : decode jdk_33_method_40_code 0 = .ok (.iload_n 0, 1) := by decide +kernel
theorem d6_1 : decode jdk_33_method_40_code 1 = .ok (.iload_n 1, 1) := by decide +kernel
theorem d6_2 : decode jdk_33_method_40_code 2 = .ok (.if_icmp .ge 7, 3) := by decide +kernel
theorem d6_5 : decode jdk_33_method_40_code 5 = .ok (.iconst (-1), 1) := by decide +kernel
theorem d6_6 : decode jdk_33_method_40_code 6 = .ok (.goto 13, 3) := by decide +kernel
theorem d6_9 : decode jdk_33_method_40_code 9 = .ok (.iload_n 0, 1) := by decide +kernel
theorem d6_10 : decode jdk_33_method_40_code 10 = .ok (.iload_n 1, 1) := by decide +kernel
theorem d6_11 : decode jdk_33_method_40_code 11 = .ok (.if_icmp .ne 7, 3) := by decide +kernel
theorem d6_14 : decode jdk_33_method_40_code 14 = .ok (.iconst 0, 1) := by decide +kernel
theorem d6_15 : decode jdk_33_method_40_code 15 = .ok (.goto 4, 3) := by decide +kernel
theorem d6_18 : decode jdk_33_method_40_code 18 = .ok (.iconst 1, 1) := by decide +kernel
theorem d6_19 : decode jdk_33_method_40_code 19 = .ok (.ireturn, 1) := by decide +kernel
theorem pn_0 : plainName "java/lang/Integer" = true := by first | (simp [plainName, overriddenIn]; done) | decide +kernel
theorem ef_6 (m : MethodId) (x0 : Int32) (x1 : Int32) : entryFrame m #[(.int x0), (.int x1)] 2 = mkF m 0 #[.val (.int x0), .val (.int x1)] [] := by first | (simp [entryFrame, mkF, argsToLocals, Value.category]; done) | rfl
def Q6 (Z : State) (p1 : Int32) (p2 : Int32) (h0 : Heap) (v : Option Value) (h : Heap) (L : List Loc) : Prop := v = some (.int (own_ic p1 p2)) ∧ L = [] ∧ h = h0
theorem rm6 (l : Launch) (Z : State) (a0 : Array Value) (hw : ∀ d ∈ tables_1, d.before a0 Z = true) (ws : List Jvm.Cond) (p1 : Int32) (p2 : Int32) (h0 : Heap) :
    MetFree l mn_0 (head1 (Jvm.Cond.code mn_0 jdk_33_method_40_code 2 (some .int) :: ws) ({ frames := 0, cells := 0, slots := 0, locals := 0 } : Room)) (fun a U => a = #[(.int p1), (.int p2)] ∧ Z.Warmed39 U.vm ∧ U.heap = h0) (fun _ _ _ _ _ => True) (fun _ U o U' => ∃ v L, o = .returned v ∧ Q6 Z p1 p2 h0 v U'.heap L ∧ FrameEnd U o U' L ({ frames := 0, cells := 0, slots := 0, locals := 0 } : Room).cells ({ frames := 0, cells := 0, slots := 0, locals := 0 } : Room).slots) := by
  refine MetFree.of_bodySF (plainFor_of_name pn_0) hisR ?_
  intro p e s m args below meth c s₁ Bd hml0 hP hK
  obtain ⟨rfl, hZ, hh⟩ := hP
  have hx := Bd.exec
  have hby := Bd.bytes
  have hml : c.maxLocals = 2 := hml0
  have hown : s.vm.findClass "java/lang/Integer" = some m.cls := findClass_of_methodNamed Bd.named
  have hnm := (name_of_methodNamed Bd.named Bd.method).1
  have X0 : Stand p l e ({ frames := 0, cells := 0, slots := 0, locals := 0 } : Room) s m #[(.int p1), (.int p2)] below meth c s₁ [] 0 0 := Stand.of_body Bd
  have e0 : s₁.heap = h0 := by rw [← hh, Bd.state]; rfl
  have pre0 : ∀ t, Steps p.tables e below (s₁.setTop (mkF m 0 #[.val (.int p1), .val (.int p2)] [])) t → Steps p.tables e below (s₁.setTop (entryFrame m #[(.int p1), (.int p2)] 2)) t := fun t k => castTop (ef_6 m p1 p2) k
  obtain ⟨v1, hv1⟩ : ∃ z : Int32, z = (if p1 < p2 then (-1 : Int32) else (if p1 = p2 then (0 : Int32) else (1 : Int32))) := ⟨_, rfl⟩
  obtain ⟨T2, X2, e2, st2⟩ : own_Mid X0 h0 (mkF m 2 #[vI p1, vI p2] [iI p2, iI p1]) (mkF m 19 #[vI p1, vI p2] [iI v1]) := by
    by_cases hc3 : p1 < p2
    · refine ⟨s₁, X0, e0, fun t kt => ?_⟩
      subst hv1
      simp only [if_pos hc3] at kt
      refine XS.icmpNo X0.here hx rfl (hb hby d6_2) rfl (tlt hc3).2.1 ?_
      refine XS.iconst X0.here hx rfl (hb hby d6_5) ?_
      refine XS.goto X0.here hx rfl (pc0 := 6) (pc' := 19) rfl (hb hby d6_6) (by decide) (by decide) ?_
      exact kt
    · have pre5 : ∀ t, Steps p.tables e below (s₁.setTop (mkF m 11 #[vI p1, vI p2] [iI p2, iI p1])) t → Steps p.tables e below (s₁.setTop (mkF m 2 #[vI p1, vI p2] [iI p2, iI p1])) t := by
        intro t kt
        refine XS.icmpYes X0.here hx rfl (pc0 := 2) (pc' := 9) rfl (hb hby d6_2) rfl (flt hc3).2.1 (by decide) (by decide) ?_
        refine XS.iloadN X0.here hx rfl (hb hby d6_9) rfl ?_
        refine XS.iloadN X0.here hx rfl (hb hby d6_10) rfl ?_
        exact kt
      by_cases hc4 : p1 = p2
      · refine ⟨s₁, X0, e0, fun t kt => ?_⟩
        subst hv1
        simp only [if_neg hc3, if_pos hc4] at kt
        refine pre5 t ?_
        refine XS.icmpNo X0.here hx rfl (hb hby d6_11) rfl (teq hc4).2 ?_
        refine XS.iconst X0.here hx rfl (hb hby d6_14) ?_
        refine XS.goto X0.here hx rfl (pc0 := 15) (pc' := 19) rfl (hb hby d6_15) (by decide) (by decide) ?_
        exact kt
      · refine ⟨s₁, X0, e0, fun t kt => ?_⟩
        subst hv1
        simp only [if_neg hc3, if_neg hc4] at kt
        refine pre5 t ?_
        refine XS.icmpYes X0.here hx rfl (pc0 := 11) (pc' := 18) rfl (hb hby d6_11) rfl (feq hc4).2 (by decide) (by decide) ?_
        refine XS.iconst X0.here hx rfl (hb hby d6_18) ?_
        exact kt
  obtain ⟨fs, hr, hrun, hended, hW, hsame⟩ := X2.leave (v := some (.int v1)) (fun h => by rw [Bd.returns] at h; cases h)
  refine ⟨_, _, pre0 _ ?_, hrun, hended, _, _, rfl, ?_, ⟨_, rfl⟩, hW, hsame.mono (by decide) (by decide)⟩
  · refine XS.iloadN X0.here hx rfl (hb hby d6_0) rfl ?_
    refine XS.iloadN X0.here hx rfl (hb hby d6_1) rfl ?_
    refine st2 _ ?_
    show Steps _ _ _ (T2.setTop (mkF m 19 #[vI p1, vI p2] [iI v1])) _
    exact retI X2 hx Bd.returns (hb hby d6_19) hr
  · show Q6 Z p1 p2 h0 _ T2.heap _
    rw [e2]
    exact ⟨by subst hv1; first | rfl | (simp only [own_ic]; done) | (simp only [own_ic]; rfl) | (simp only [own_ic, nar] ; first | rfl | (simp; done) | decide), rfl, rfl⟩
def own_bc (p1 : Int32) (p2 : Int32) : Int32 := (if p1 = p2 then (0 : Int32) else (if p1 = (0 : Int32) then (-1 : Int32) else (1 : Int32)))
theorem d9_0 : decode jdk_2055_method_14_code 0 = .ok (.iload_n 0, 1) := by decide +kernel
theorem d9_1 : decode jdk_2055_method_14_code 1 = .ok (.iload_n 1, 1) := by decide +kernel
theorem d9_2 : decode jdk_2055_method_14_code 2 = .ok (.if_icmp .ne 7, 3) := by decide +kernel
theorem d9_5 : decode jdk_2055_method_14_code 5 = .ok (.iconst 0, 1) := by decide +kernel
theorem d9_6 : decode jdk_2055_method_14_code 6 = .ok (.goto 12, 3) := by decide +kernel
theorem d9_9 : decode jdk_2055_method_14_code 9 = .ok (.iload_n 0, 1) := by decide +kernel
theorem d9_10 : decode jdk_2055_method_14_code 10 = .ok (.ifCond .eq 7, 3) := by decide +kernel
theorem d9_13 : decode jdk_2055_method_14_code 13 = .ok (.iconst 1, 1) := by decide +kernel
theorem d9_14 : decode jdk_2055_method_14_code 14 = .ok (.goto 4, 3) := by decide +kernel
theorem d9_17 : decode jdk_2055_method_14_code 17 = .ok (.iconst (-1), 1) := by decide +kernel
theorem d9_18 : decode jdk_2055_method_14_code 18 = .ok (.ireturn, 1) := by decide +kernel
theorem pn_1 : plainName "java/lang/Boolean" = true := by first | (simp [plainName, overriddenIn]; done) | decide +kernel
theorem ef_9 (m : MethodId) (x0 : Int32) (x1 : Int32) : entryFrame m #[(.int x0), (.int x1)] 2 = mkF m 0 #[.val (.int x0), .val (.int x1)] [] := by first | (simp [entryFrame, mkF, argsToLocals, Value.category]; done) | rfl
def Q9 (Z : State) (p1 : Int32) (p2 : Int32) (h0 : Heap) (v : Option Value) (h : Heap) (L : List Loc) : Prop := v = some (.int (own_bc p1 p2)) ∧ L = [] ∧ h = h0
theorem rm9 (l : Launch) (Z : State) (a0 : Array Value) (hw : ∀ d ∈ tables_1, d.before a0 Z = true) (ws : List Jvm.Cond) (p1 : Int32) (p2 : Int32) (h0 : Heap) :
    MetFree l mn_1 (head1 (Jvm.Cond.code mn_1 jdk_2055_method_14_code 2 (some .int) :: ws) ({ frames := 0, cells := 0, slots := 0, locals := 0 } : Room)) (fun a U => a = #[(.int p1), (.int p2)] ∧ Z.Warmed39 U.vm ∧ U.heap = h0) (fun _ _ _ _ _ => True) (fun _ U o U' => ∃ v L, o = .returned v ∧ Q9 Z p1 p2 h0 v U'.heap L ∧ FrameEnd U o U' L ({ frames := 0, cells := 0, slots := 0, locals := 0 } : Room).cells ({ frames := 0, cells := 0, slots := 0, locals := 0 } : Room).slots) := by
  refine MetFree.of_bodySF (plainFor_of_name pn_1) hisR ?_
  intro p e s m args below meth c s₁ Bd hml0 hP hK
  obtain ⟨rfl, hZ, hh⟩ := hP
  have hx := Bd.exec
  have hby := Bd.bytes
  have hml : c.maxLocals = 2 := hml0
  have hown : s.vm.findClass "java/lang/Boolean" = some m.cls := findClass_of_methodNamed Bd.named
  have hnm := (name_of_methodNamed Bd.named Bd.method).1
  have X0 : Stand p l e ({ frames := 0, cells := 0, slots := 0, locals := 0 } : Room) s m #[(.int p1), (.int p2)] below meth c s₁ [] 0 0 := Stand.of_body Bd
  have e0 : s₁.heap = h0 := by rw [← hh, Bd.state]; rfl
  have pre0 : ∀ t, Steps p.tables e below (s₁.setTop (mkF m 0 #[.val (.int p1), .val (.int p2)] [])) t → Steps p.tables e below (s₁.setTop (entryFrame m #[(.int p1), (.int p2)] 2)) t := fun t k => castTop (ef_9 m p1 p2) k
  obtain ⟨v1, hv1⟩ : ∃ z : Int32, z = (if p1 = p2 then (0 : Int32) else (if p1 = (0 : Int32) then (-1 : Int32) else (1 : Int32))) := ⟨_, rfl⟩
  obtain ⟨T2, X2, e2, st2⟩ : own_Mid X0 h0 (mkF m 2 #[vI p1, vI p2] [iI p2, iI p1]) (mkF m 18 #[vI p1, vI p2] [iI v1]) := by
    by_cases hc3 : p1 = p2
    · refine ⟨s₁, X0, e0, fun t kt => ?_⟩
      subst hv1
      simp only [if_pos hc3] at kt
      refine XS.icmpNo X0.here hx rfl (hb hby d9_2) rfl (teq hc3).2 ?_
      refine XS.iconst X0.here hx rfl (hb hby d9_5) ?_
      refine XS.goto X0.here hx rfl (pc0 := 6) (pc' := 18) rfl (hb hby d9_6) (by decide) (by decide) ?_
      exact kt
    · have pre5 : ∀ t, Steps p.tables e below (s₁.setTop (mkF m 10 #[vI p1, vI p2] [iI p1])) t → Steps p.tables e below (s₁.setTop (mkF m 2 #[vI p1, vI p2] [iI p2, iI p1])) t := by
        intro t kt
        refine XS.icmpYes X0.here hx rfl (pc0 := 2) (pc' := 9) rfl (hb hby d9_2) rfl (feq hc3).2 (by decide) (by decide) ?_
        refine XS.iloadN X0.here hx rfl (hb hby d9_9) rfl ?_
        exact kt
      by_cases hc4 : p1 = (0 : Int32)
      · refine ⟨s₁, X0, e0, fun t kt => ?_⟩
        subst hv1
        simp only [if_neg hc3, if_pos hc4] at kt
        refine pre5 t ?_
        refine XS.ifYes X0.here hx rfl (pc0 := 10) (pc' := 17) rfl (hb hby d9_10) rfl ((if0 _ _).trans (teq hc4).1) (by decide) (by decide) ?_
        refine XS.iconst X0.here hx rfl (hb hby d9_17) ?_
        exact kt
      · refine ⟨s₁, X0, e0, fun t kt => ?_⟩
        subst hv1
        simp only [if_neg hc3, if_neg hc4] at kt
        refine pre5 t ?_
        refine XS.ifNo X0.here hx rfl (hb hby d9_10) rfl ((if0 _ _).trans (feq hc4).1) ?_
        refine XS.iconst X0.here hx rfl (hb hby d9_13) ?_
        refine XS.goto X0.here hx rfl (pc0 := 14) (pc' := 18) rfl (hb hby d9_14) (by decide) (by decide) ?_
        exact kt
  obtain ⟨fs, hr, hrun, hended, hW, hsame⟩ := X2.leave (v := some (.int v1)) (fun h => by rw [Bd.returns] at h; cases h)
  refine ⟨_, _, pre0 _ ?_, hrun, hended, _, _, rfl, ?_, ⟨_, rfl⟩, hW, hsame.mono (by decide) (by decide)⟩
  · refine XS.iloadN X0.here hx rfl (hb hby d9_0) rfl ?_
    refine XS.iloadN X0.here hx rfl (hb hby d9_1) rfl ?_
    refine st2 _ ?_
    show Steps _ _ _ (T2.setTop (mkF m 18 #[vI p1, vI p2] [iI v1])) _
    exact retI X2 hx Bd.returns (hb hby d9_18) hr
  · show Q9 Z p1 p2 h0 _ T2.heap _
    rw [e2]
    exact ⟨by subst hv1; first | rfl | (simp only [own_bc]; done) | (simp only [own_bc]; rfl) | (simp only [own_bc, nar] ; first | rfl | (simp; done) | decide), rfl, rfl⟩
def own_s_z (p3 : Int32) (p4 : Int32) : Int32 := (0 : Int32)
theorem d5_0 : decode prog_23_method_19_code 0 = .ok (.aload_n 0, 1) := by decide +kernel
theorem d5_1 : decode prog_23_method_19_code 1 = .ok (.getfield 25, 3) := by decide +kernel
theorem d5_4 : decode prog_23_method_19_code 4 = .ok (.iload_n 1, 1) := by decide +kernel
theorem d5_5 : decode prog_23_method_19_code 5 = .ok (.aaload, 1) := by decide +kernel
theorem d5_6 : decode prog_23_method_19_code 6 = .ok (.astore 4, 2) := by decide +kernel
theorem d5_8 : decode prog_23_method_19_code 8 = .ok (.iconst 0, 1) := by decide +kernel
theorem d5_9 : decode prog_23_method_19_code 9 = .ok (.istore 5, 2) := by decide +kernel
theorem d5_11 : decode prog_23_method_19_code 11 = .ok (.aload_n 0, 1) := by decide +kernel
theorem d5_12 : decode prog_23_method_19_code 12 = .ok (.getfield 29, 3) := by decide +kernel
theorem d5_15 : decode prog_23_method_19_code 15 = .ok (.iload_n 1, 1) := by decide +kernel
theorem d5_16 : decode prog_23_method_19_code 16 = .ok (.iaload, 1) := by decide +kernel
theorem d5_17 : decode prog_23_method_19_code 17 = .ok (.istore 6, 2) := by decide +kernel
theorem d5_19 : decode prog_23_method_19_code 19 = .ok (.iload 5, 2) := by decide +kernel
theorem d5_21 : decode prog_23_method_19_code 21 = .ok (.iload 6, 2) := by decide +kernel
theorem d5_23 : decode prog_23_method_19_code 23 = .ok (.if_icmp .ge 76, 3) := by decide +kernel
theorem d5_99 : decode prog_23_method_19_code 99 = .ok (.iload 5, 2) := by decide +kernel
theorem d5_101 : decode prog_23_method_19_code 101 = .ok (.ireturn, 1) := by decide +kernel
theorem pn_2 : plainName "com/example/tidemine/tidemine/PatternTrie" = true := by first | (simp [plainName, overriddenIn]; done) | decide +kernel
theorem ef_5_z (m : MethodId) (x0 : Addr) (x1 : Int32) (x2 : Int32) (x3 : Int32) : entryFrame m #[(.ref x0), (.int x1), (.int x2), (.int x3)] 11 = mkF m 0 #[.val (.ref x0), .val (.int x1), .val (.int x2), .val (.int x3), .unset, .unset, .unset, .unset, .unset, .unset, .unset] [] := by first | (simp [entryFrame, mkF, argsToLocals, Value.category]; done) | rfl
def Q5_z (Z : State) (a1 : Addr) (p2 : Int32) (p3 : Int32) (p4 : Int32) (bi bf bp bc bn : Addr) (ki kf kp kc kn : ClassId) (IL FL PL NL : List Int32) (CV : List Value) (h0 : Heap) (v : Option Value) (h : Heap) (L : List Loc) : Prop := v = some (.int (own_s_z p3 p4)) ∧ L = [] ∧ h = h0
theorem rm5_z (l : Launch) (Z : State) (a0 : Array Value) (hw : ∀ d ∈ tables_1, d.before a0 Z = true) (ws : List Jvm.Cond) (a1 : Addr) (p2 : Int32) (p3 : Int32) (p4 : Int32) (bi bf bp bc bn : Addr) (ki kf kp kc kn : ClassId) (IL FL PL NL : List Int32) (CV : List Value) (h0 : Heap) (E_a1 : Exa Z h0 a1 "com/example/tidemine/tidemine/PatternTrie") (F_children : Fld Z h0 a1 "com/example/tidemine/tidemine/PatternTrie" "children" "[[I" (.ref bc)) (V_bc : Arv Z h0 bc kc (.array .int) (16 : Int32) CV .null) (F_childCounts : Fld Z h0 a1 "com/example/tidemine/tidemine/PatternTrie" "childCounts" "[I" (.ref bn)) (V_bn : Arv Z h0 bn kn .int (16 : Int32) (own_bs NL) (.int (0 : Int32))) (F_items : Fld Z h0 a1 "com/example/tidemine/tidemine/PatternTrie" "items" "[I" (.ref bi)) (V_bi : Arv Z h0 bi ki .int (16 : Int32) (own_bs IL) (.int (0 : Int32))) (F_sameEvents : Fld Z h0 a1 "com/example/tidemine/tidemine/PatternTrie" "sameEvents" "[Z" (.ref bf)) (V_bf : Arv Z h0 bf kf .boolean (16 : Int32) (own_bs FL) (.int (0 : Int32))) (hp : ¬ p2 < (0 : Int32) ∧ p2 < (16 : Int32)) (hcv : CV.getD p2.toNatClampNeg .null = .null) (hnc : NL.getD p2.toNatClampNeg 0 = (0 : Int32)) :
    MetFree l mn_2 (head1 (Jvm.Cond.code mn_2 prog_23_method_19_code 11 (some .int) :: ws) ({ frames := 0, cells := 0, slots := 0, locals := 0 } : Room)) (fun a U => a = #[(.ref a1), (.int p2), (.int p3), (.int p4)] ∧ Z.Warmed39 U.vm ∧ U.heap = h0) (fun _ _ _ _ _ => True) (fun _ U o U' => ∃ v L, o = .returned v ∧ Q5_z Z a1 p2 p3 p4 bi bf bp bc bn ki kf kp kc kn IL FL PL NL CV h0 v U'.heap L ∧ FrameEnd U o U' L ({ frames := 0, cells := 0, slots := 0, locals := 0 } : Room).cells ({ frames := 0, cells := 0, slots := 0, locals := 0 } : Room).slots) := by
  refine MetFree.of_bodySF (plainFor_of_name pn_2) hisR ?_
  intro p e s m args below meth c s₁ Bd hml0 hP hK
  obtain ⟨rfl, hZ, hh⟩ := hP
  have hx := Bd.exec
  have hby := Bd.bytes
  have hml : c.maxLocals = 11 := hml0
  have hown : s.vm.findClass "com/example/tidemine/tidemine/PatternTrie" = some m.cls := findClass_of_methodNamed Bd.named
  have hnm := (name_of_methodNamed Bd.named Bd.method).1
  have X0 : Stand p l e ({ frames := 0, cells := 0, slots := 0, locals := 0 } : Room) s m #[(.ref a1), (.int p2), (.int p3), (.int p4)] below meth c s₁ [] 0 0 := Stand.of_body Bd
  have e0 : s₁.heap = h0 := by rw [← hh, Bd.state]; rfl
  have pre0 : ∀ t, Steps p.tables e below (s₁.setTop (mkF m 0 #[.val (.ref a1), .val (.int p2), .val (.int p3), .val (.int p4), .unset, .unset, .unset, .unset, .unset, .unset, .unset] [])) t → Steps p.tables e below (s₁.setTop (entryFrame m #[(.ref a1), (.int p2), (.int p3), (.int p4)] 11)) t := fun t k => castTop (ef_5_z m a1 p2 p3 p4) k
  obtain ⟨T1, X1, e1, st1⟩ := gF X0 hx hZ hown (ww hw 22 rfl) e0 F_children (g := (mkF m 1 #[vR a1, vI p2, vI p3, vI p4, .unset, .unset, .unset, .unset, .unset, .unset, .unset] [iR a1])) rfl rfl (hb hby d5_1)
  obtain ⟨cl2, Ar2, q2, S2, M2, H2, G2⟩ := id V_bc
  have hin3 := inb_of (j := p2) S2 hp
  have hat4 : cl2.slots[(p2).toNatClampNeg]? = some .null := Has.at H2 hin3 hcv
  obtain ⟨T5, X5, e5, st5⟩ := gF X1 hx hZ hown (ww hw 24 rfl) e1 F_childCounts (g := (mkF m 12 #[vR a1, vI p2, vI p3, vI p4, .val .null, vI 0, .unset, .unset, .unset, .unset, .unset] [iR a1])) rfl rfl (hb hby d5_12)
  obtain ⟨cl6, Ar6, q6, S6, M6, H6, G6⟩ := id V_bn
  have hin7 := inb_of (j := p2) S6 hp
  have hat8 : cl6.slots[(p2).toNatClampNeg]? = some (.int (0 : Int32)) := Has.at H6 hin7 (by rw [own_bsget, hnc])
  obtain ⟨fs, hr, hrun, hended, hW, hsame⟩ := X5.leave (v := some (.int (0 : Int32))) (fun h => by rw [Bd.returns] at h; cases h)
  refine ⟨_, _, pre0 _ ?_, hrun, hended, _, _, rfl, ?_, ⟨_, rfl⟩, hW, hsame.mono (by decide) (by decide)⟩
  · refine XS.aloadN X0.here hx rfl (hb hby d5_0) rfl rfl ?_
    refine st1 _ ?_
    refine XS.iloadN X1.here hx rfl (hb hby d5_4) rfl ?_
    refine X1.aaload hx (j := p2) (v := .null) (by rw [e1]; exact Ar2.1) (State.isArrayOf_alike hZ.alike Ar2.2.1) rfl Ar2.2.2 hin3 hat4 (g := (mkF m 5 #[vR a1, vI p2, vI p3, vI p4, .unset, .unset, .unset, .unset, .unset, .unset, .unset] [iI p2, iR bc])) rfl rfl (hb hby d5_5) _ ?_
    refine XS.astore X1.here hx rfl (hb hby d5_6) rfl rfl (l' := #[vR a1, vI p2, vI p3, vI p4, .val .null, .unset, .unset, .unset, .unset, .unset, .unset]) rfl ?_
    refine XS.iconst X1.here hx rfl (hb hby d5_8) ?_
    refine XS.istore X1.here hx rfl (hb hby d5_9) rfl (l' := #[vR a1, vI p2, vI p3, vI p4, .val .null, vI 0, .unset, .unset, .unset, .unset, .unset]) rfl ?_
    refine XS.aloadN X1.here hx rfl (hb hby d5_11) rfl rfl ?_
    refine st5 _ ?_
    refine XS.iloadN X5.here hx rfl (hb hby d5_15) rfl ?_
    refine X5.iaload hx (j := p2) (v := (.int (0 : Int32))) (by rw [e5]; exact Ar6.1) (State.isArrayOf_alike hZ.alike Ar6.2.1) Ar6.2.2 hin7 hat8 (g := (mkF m 16 #[vR a1, vI p2, vI p3, vI p4, .val .null, vI 0, .unset, .unset, .unset, .unset, .unset] [iI p2, iR bn])) rfl rfl (hb hby d5_16) _ ?_
    refine XS.istore X5.here hx rfl (hb hby d5_17) rfl (l' := #[vR a1, vI p2, vI p3, vI p4, .val .null, vI 0, vI 0, .unset, .unset, .unset, .unset]) rfl ?_
    refine XS.iload X5.here hx rfl (hb hby d5_19) rfl ?_
    refine XS.iload X5.here hx rfl (hb hby d5_21) rfl ?_
    refine XS.icmpYes X5.here hx rfl (pc0 := 23) (pc' := 99) rfl (hb hby d5_23) rfl (flt (by decide : ¬ ((0 : Int32) < (0 : Int32)))).2.1 (by decide) (by decide) ?_
    refine XS.iload X5.here hx rfl (hb hby d5_99) rfl ?_
    show Steps _ _ _ (T5.setTop (mkF m 101 #[vR a1, vI p2, vI p3, vI p4, .val .null, vI 0, vI 0, .unset, .unset, .unset, .unset] [iI 0])) _
    exact retI X5 hx Bd.returns (hb hby d5_101) hr
  · show Q5_z Z a1 p2 p3 p4 bi bf bp bc bn ki kf kp kc kn IL FL PL NL CV h0 _ T5.heap _
    rw [e5]
    exact ⟨by first | rfl | (simp only [own_s_z]; done) | (simp only [own_s_z]; rfl) | (simp only [own_s_z, nar] ; first | rfl | (simp; done) | decide), rfl, rfl⟩
def Q5_zv (Z : State) (a1 : Addr) (p2 : Int32) (p3 : Int32) (p4 : Int32) (bi bf bp bc bn : Addr) (ki kf kp kc kn : ClassId) (IL FL PL NL : List Int32) (CV : List Value) (at_ : Int32) (h0 : Heap) (v : Option Value) (h : Heap) (L : List Loc) : Prop := v = some (.int at_) ∧ L = [] ∧ h = h0
theorem rm5_zv (l : Launch) (Z : State) (a0 : Array Value) (hw : ∀ d ∈ tables_1, d.before a0 Z = true) (ws : List Jvm.Cond) (a1 : Addr) (p2 : Int32) (p3 : Int32) (p4 : Int32) (bi bf bp bc bn : Addr) (ki kf kp kc kn : ClassId) (IL FL PL NL : List Int32) (CV : List Value) (at_ : Int32) (h0 : Heap) (E_a1 : Exa Z h0 a1 "com/example/tidemine/tidemine/PatternTrie") (F_children : Fld Z h0 a1 "com/example/tidemine/tidemine/PatternTrie" "children" "[[I" (.ref bc)) (V_bc : Arv Z h0 bc kc (.array .int) (16 : Int32) CV .null) (F_childCounts : Fld Z h0 a1 "com/example/tidemine/tidemine/PatternTrie" "childCounts" "[I" (.ref bn)) (V_bn : Arv Z h0 bn kn .int (16 : Int32) (own_bs NL) (.int (0 : Int32))) (F_items : Fld Z h0 a1 "com/example/tidemine/tidemine/PatternTrie" "items" "[I" (.ref bi)) (V_bi : Arv Z h0 bi ki .int (16 : Int32) (own_bs IL) (.int (0 : Int32))) (F_sameEvents : Fld Z h0 a1 "com/example/tidemine/tidemine/PatternTrie" "sameEvents" "[Z" (.ref bf)) (V_bf : Arv Z h0 bf kf .boolean (16 : Int32) (own_bs FL) (.int (0 : Int32))) (hp : ¬ p2 < (0 : Int32) ∧ p2 < (16 : Int32)) (hcv : CV.getD p2.toNatClampNeg .null = .null) (hnc : NL.getD p2.toNatClampNeg 0 = (0 : Int32)) (hat : own_s_z  p3 p4 = at_) :
    MetFree l mn_2 (head1 (Jvm.Cond.code mn_2 prog_23_method_19_code 11 (some .int) :: ws) ({ frames := 0, cells := 0, slots := 0, locals := 0 } : Room)) (fun a U => a = #[(.ref a1), (.int p2), (.int p3), (.int p4)] ∧ Z.Warmed39 U.vm ∧ U.heap = h0) (fun _ _ _ _ _ => True) (fun _ U o U' => ∃ v L, o = .returned v ∧ Q5_zv Z a1 p2 p3 p4 bi bf bp bc bn ki kf kp kc kn IL FL PL NL CV at_ h0 v U'.heap L ∧ FrameEnd U o U' L ({ frames := 0, cells := 0, slots := 0, locals := 0 } : Room).cells ({ frames := 0, cells := 0, slots := 0, locals := 0 } : Room).slots) := by
  subst hat
  exact rm5_z l Z a0 hw ws a1 p2 p3 p4 bi bf bp bc bn ki kf kp kc kn IL FL PL NL CV h0 E_a1 F_children V_bc F_childCounts V_bn F_items V_bi F_sameEvents V_bf hp hcv hnc 
def own_s_0 (p3 : Int32) (p4 : Int32) : Int32 := (0 : Int32)
theorem ef_5_0 (m : MethodId) (x0 : Addr) (x1 : Int32) (x2 : Int32) (x3 : Int32) : entryFrame m #[(.ref x0), (.int x1), (.int x2), (.int x3)] 11 = mkF m 0 #[.val (.ref x0), .val (.int x1), .val (.int x2), .val (.int x3), .unset, .unset, .unset, .unset, .unset, .unset, .unset] [] := by first | (simp [entryFrame, mkF, argsToLocals, Value.category]; done) | rfl
def Q5_0 (Z : State) (a1 : Addr) (p2 : Int32) (p3 : Int32) (p4 : Int32) (bi bf bp bc bn : Addr) (ki kf kp kc kn : ClassId) (IL FL PL NL : List Int32) (CV : List Value) (s4 : Addr) (k4 : ClassId) (t0_ t1_ t2_ t3_ : Int32) (h0 : Heap) (v : Option Value) (h : Heap) (L : List Loc) : Prop := v = some (.int (own_s_0 p3 p4)) ∧ L = [] ∧ h = h0
theorem rm5_0 (l : Launch) (Z : State) (a0 : Array Value) (hw : ∀ d ∈ tables_1, d.before a0 Z = true) (ws : List Jvm.Cond) (a1 : Addr) (p2 : Int32) (p3 : Int32) (p4 : Int32) (bi bf bp bc bn : Addr) (ki kf kp kc kn : ClassId) (IL FL PL NL : List Int32) (CV : List Value) (s4 : Addr) (k4 : ClassId) (t0_ t1_ t2_ t3_ : Int32) (h0 : Heap) (E_a1 : Exa Z h0 a1 "com/example/tidemine/tidemine/PatternTrie") (F_children : Fld Z h0 a1 "com/example/tidemine/tidemine/PatternTrie" "children" "[[I" (.ref bc)) (V_bc : Arv Z h0 bc kc (.array .int) (16 : Int32) CV .null) (F_childCounts : Fld Z h0 a1 "com/example/tidemine/tidemine/PatternTrie" "childCounts" "[I" (.ref bn)) (V_bn : Arv Z h0 bn kn .int (16 : Int32) (own_bs NL) (.int (0 : Int32))) (F_items : Fld Z h0 a1 "com/example/tidemine/tidemine/PatternTrie" "items" "[I" (.ref bi)) (V_bi : Arv Z h0 bi ki .int (16 : Int32) (own_bs IL) (.int (0 : Int32))) (F_sameEvents : Fld Z h0 a1 "com/example/tidemine/tidemine/PatternTrie" "sameEvents" "[Z" (.ref bf)) (V_bf : Arv Z h0 bf kf .boolean (16 : Int32) (own_bs FL) (.int (0 : Int32))) (hp : ¬ p2 < (0 : Int32) ∧ p2 < (16 : Int32)) (hcv : CV.getD p2.toNatClampNeg .null = .ref s4) (hnc : NL.getD p2.toNatClampNeg 0 = (0 : Int32)) (V_s4 : Arv Z h0 s4 k4 .int (4 : Int32) [(.int t0_), (.int t1_), (.int t2_), (.int t3_)] (.int (0 : Int32))) :
    MetFree l mn_2 (head1 (Jvm.Cond.code mn_2 prog_23_method_19_code 11 (some .int) :: ws) ({ frames := 0, cells := 0, slots := 0, locals := 0 } : Room)) (fun a U => a = #[(.ref a1), (.int p2), (.int p3), (.int p4)] ∧ Z.Warmed39 U.vm ∧ U.heap = h0) (fun _ _ _ _ _ => True) (fun _ U o U' => ∃ v L, o = .returned v ∧ Q5_0 Z a1 p2 p3 p4 bi bf bp bc bn ki kf kp kc kn IL FL PL NL CV s4 k4 t0_ t1_ t2_ t3_ h0 v U'.heap L ∧ FrameEnd U o U' L ({ frames := 0, cells := 0, slots := 0, locals := 0 } : Room).cells ({ frames := 0, cells := 0, slots := 0, locals := 0 } : Room).slots) := by
  refine MetFree.of_bodySF (plainFor_of_name pn_2) hisR ?_
  intro p e s m args below meth c s₁ Bd hml0 hP hK
  obtain ⟨rfl, hZ, hh⟩ := hP
  have hx := Bd.exec
  have hby := Bd.bytes
  have hml : c.maxLocals = 11 := hml0
  have hown : s.vm.findClass "com/example/tidemine/tidemine/PatternTrie" = some m.cls := findClass_of_methodNamed Bd.named
  have hnm := (name_of_methodNamed Bd.named Bd.method).1
  have X0 : Stand p l e ({ frames := 0, cells := 0, slots := 0, locals := 0 } : Room) s m #[(.ref a1), (.int p2), (.int p3), (.int p4)] below meth c s₁ [] 0 0 := Stand.of_body Bd
  have e0 : s₁.heap = h0 := by rw [← hh, Bd.state]; rfl
  have pre0 : ∀ t, Steps p.tables e below (s₁.setTop (mkF m 0 #[.val (.ref a1), .val (.int p2), .val (.int p3), .val (.int p4), .unset, .unset, .unset, .unset, .unset, .unset, .unset] [])) t → Steps p.tables e below (s₁.setTop (entryFrame m #[(.ref a1), (.int p2), (.int p3), (.int p4)] 11)) t := fun t k => castTop (ef_5_0 m a1 p2 p3 p4) k
  obtain ⟨T1, X1, e1, st1⟩ := gF X0 hx hZ hown (ww hw 22 rfl) e0 F_children (g := (mkF m 1 #[vR a1, vI p2, vI p3, vI p4, .unset, .unset, .unset, .unset, .unset, .unset, .unset] [iR a1])) rfl rfl (hb hby d5_1)
  obtain ⟨cl2, Ar2, q2, S2, M2, H2, G2⟩ := id V_bc
  have hin3 := inb_of (j := p2) S2 hp
  have hat4 : cl2.slots[(p2).toNatClampNeg]? = some (.ref s4) := Has.at H2 hin3 hcv
  obtain ⟨T5, X5, e5, st5⟩ := gF X1 hx hZ hown (ww hw 24 rfl) e1 F_childCounts (g := (mkF m 12 #[vR a1, vI p2, vI p3, vI p4, vR s4, vI 0, .unset, .unset, .unset, .unset, .unset] [iR a1])) rfl rfl (hb hby d5_12)
  obtain ⟨cl6, Ar6, q6, S6, M6, H6, G6⟩ := id V_bn
  have hin7 := inb_of (j := p2) S6 hp
  have hat8 : cl6.slots[(p2).toNatClampNeg]? = some (.int (0 : Int32)) := Has.at H6 hin7 (by rw [own_bsget, hnc])
  obtain ⟨fs, hr, hrun, hended, hW, hsame⟩ := X5.leave (v := some (.int (0 : Int32))) (fun h => by rw [Bd.returns] at h; cases h)
  refine ⟨_, _, pre0 _ ?_, hrun, hended, _, _, rfl, ?_, ⟨_, rfl⟩, hW, hsame.mono (by decide) (by decide)⟩
  · refine XS.aloadN X0.here hx rfl (hb hby d5_0) rfl rfl ?_
    refine st1 _ ?_
    refine XS.iloadN X1.here hx rfl (hb hby d5_4) rfl ?_
    refine X1.aaload hx (j := p2) (v := (.ref s4)) (by rw [e1]; exact Ar2.1) (State.isArrayOf_alike hZ.alike Ar2.2.1) rfl Ar2.2.2 hin3 hat4 (g := (mkF m 5 #[vR a1, vI p2, vI p3, vI p4, .unset, .unset, .unset, .unset, .unset, .unset, .unset] [iI p2, iR bc])) rfl rfl (hb hby d5_5) _ ?_
    refine XS.astore X1.here hx rfl (hb hby d5_6) rfl rfl (l' := #[vR a1, vI p2, vI p3, vI p4, vR s4, .unset, .unset, .unset, .unset, .unset, .unset]) rfl ?_
    refine XS.iconst X1.here hx rfl (hb hby d5_8) ?_
    refine XS.istore X1.here hx rfl (hb hby d5_9) rfl (l' := #[vR a1, vI p2, vI p3, vI p4, vR s4, vI 0, .unset, .unset, .unset, .unset, .unset]) rfl ?_
    refine XS.aloadN X1.here hx rfl (hb hby d5_11) rfl rfl ?_
    refine st5 _ ?_
    refine XS.iloadN X5.here hx rfl (hb hby d5_15) rfl ?_
    refine X5.iaload hx (j := p2) (v := (.int (0 : Int32))) (by rw [e5]; exact Ar6.1) (State.isArrayOf_alike hZ.alike Ar6.2.1) Ar6.2.2 hin7 hat8 (g := (mkF m 16 #[vR a1, vI p2, vI p3, vI p4, vR s4, vI 0, .unset, .unset, .unset, .unset, .unset] [iI p2, iR bn])) rfl rfl (hb hby d5_16) _ ?_
    refine XS.istore X5.here hx rfl (hb hby d5_17) rfl (l' := #[vR a1, vI p2, vI p3, vI p4, vR s4, vI 0, vI 0, .unset, .unset, .unset, .unset]) rfl ?_
    refine XS.iload X5.here hx rfl (hb hby d5_19) rfl ?_
    refine XS.iload X5.here hx rfl (hb hby d5_21) rfl ?_
    refine XS.icmpYes X5.here hx rfl (pc0 := 23) (pc' := 99) rfl (hb hby d5_23) rfl (flt (by decide : ¬ ((0 : Int32) < (0 : Int32)))).2.1 (by decide) (by decide) ?_
    refine XS.iload X5.here hx rfl (hb hby d5_99) rfl ?_
    show Steps _ _ _ (T5.setTop (mkF m 101 #[vR a1, vI p2, vI p3, vI p4, vR s4, vI 0, vI 0, .unset, .unset, .unset, .unset] [iI 0])) _
    exact retI X5 hx Bd.returns (hb hby d5_101) hr
  · show Q5_0 Z a1 p2 p3 p4 bi bf bp bc bn ki kf kp kc kn IL FL PL NL CV s4 k4 t0_ t1_ t2_ t3_ h0 _ T5.heap _
    rw [e5]
    exact ⟨by first | rfl | (simp only [own_s_0]; done) | (simp only [own_s_0]; rfl) | (simp only [own_s_0, nar] ; first | rfl | (simp; done) | decide), rfl, rfl⟩
def Q5_0v (Z : State) (a1 : Addr) (p2 : Int32) (p3 : Int32) (p4 : Int32) (bi bf bp bc bn : Addr) (ki kf kp kc kn : ClassId) (IL FL PL NL : List Int32) (CV : List Value) (s4 : Addr) (k4 : ClassId) (t0_ t1_ t2_ t3_ : Int32) (at_ : Int32) (h0 : Heap) (v : Option Value) (h : Heap) (L : List Loc) : Prop := v = some (.int at_) ∧ L = [] ∧ h = h0
theorem rm5_0v (l : Launch) (Z : State) (a0 : Array Value) (hw : ∀ d ∈ tables_1, d.before a0 Z = true) (ws : List Jvm.Cond) (a1 : Addr) (p2 : Int32) (p3 : Int32) (p4 : Int32) (bi bf bp bc bn : Addr) (ki kf kp kc kn : ClassId) (IL FL PL NL : List Int32) (CV : List Value) (s4 : Addr) (k4 : ClassId) (t0_ t1_ t2_ t3_ : Int32) (at_ : Int32) (h0 : Heap) (E_a1 : Exa Z h0 a1 "com/example/tidemine/tidemine/PatternTrie") (F_children : Fld Z h0 a1 "com/example/tidemine/tidemine/PatternTrie" "children" "[[I" (.ref bc)) (V_bc : Arv Z h0 bc kc (.array .int) (16 : Int32) CV .null) (F_childCounts : Fld Z h0 a1 "com/example/tidemine/tidemine/PatternTrie" "childCounts" "[I" (.ref bn)) (V_bn : Arv Z h0 bn kn .int (16 : Int32) (own_bs NL) (.int (0 : Int32))) (F_items : Fld Z h0 a1 "com/example/tidemine/tidemine/PatternTrie" "items" "[I" (.ref bi)) (V_bi : Arv Z h0 bi ki .int (16 : Int32) (own_bs IL) (.int (0 : Int32))) (F_sameEvents : Fld Z h0 a1 "com/example/tidemine/tidemine/PatternTrie" "sameEvents" "[Z" (.ref bf)) (V_bf : Arv Z h0 bf kf .boolean (16 : Int32) (own_bs FL) (.int (0 : Int32))) (hp : ¬ p2 < (0 : Int32) ∧ p2 < (16 : Int32)) (hcv : CV.getD p2.toNatClampNeg .null = .ref s4) (hnc : NL.getD p2.toNatClampNeg 0 = (0 : Int32)) (V_s4 : Arv Z h0 s4 k4 .int (4 : Int32) [(.int t0_), (.int t1_), (.int t2_), (.int t3_)] (.int (0 : Int32))) (hat : own_s_0  p3 p4 = at_) :
    MetFree l mn_2 (head1 (Jvm.Cond.code mn_2 prog_23_method_19_code 11 (some .int) :: ws) ({ frames := 0, cells := 0, slots := 0, locals := 0 } : Room)) (fun a U => a = #[(.ref a1), (.int p2), (.int p3), (.int p4)] ∧ Z.Warmed39 U.vm ∧ U.heap = h0) (fun _ _ _ _ _ => True) (fun _ U o U' => ∃ v L, o = .returned v ∧ Q5_0v Z a1 p2 p3 p4 bi bf bp bc bn ki kf kp kc kn IL FL PL NL CV s4 k4 t0_ t1_ t2_ t3_ at_ h0 v U'.heap L ∧ FrameEnd U o U' L ({ frames := 0, cells := 0, slots := 0, locals := 0 } : Room).cells ({ frames := 0, cells := 0, slots := 0, locals := 0 } : Room).slots) := by
  subst hat
  exact rm5_0 l Z a0 hw ws a1 p2 p3 p4 bi bf bp bc bn ki kf kp kc kn IL FL PL NL CV s4 k4 t0_ t1_ t2_ t3_ h0 E_a1 F_children V_bc F_childCounts V_bn F_items V_bi F_sameEvents V_bf hp hcv hnc V_s4 
def own_s_1 (k0_ : Int32) (f0_ : Int32) (p3 : Int32) (p4 : Int32) : Int32 := (if (if (own_ic k0_ p3) = (0 : Int32) then (own_bc f0_ p4) else (own_ic k0_ p3)) < (0 : Int32) then (1 : Int32) else (0 : Int32))
theorem d5_26 : decode prog_23_method_19_code 26 = .ok (.iload 5, 2) := by decide +kernel
theorem d5_28 : decode prog_23_method_19_code 28 = .ok (.iload 6, 2) := by decide +kernel
theorem d5_30 : decode prog_23_method_19_code 30 = .ok (.iadd, 1) := by decide +kernel
theorem d5_31 : decode prog_23_method_19_code 31 = .ok (.iconst 1, 1) := by decide +kernel
theorem d5_32 : decode prog_23_method_19_code 32 = .ok (.iushr, 1) := by decide +kernel
theorem d5_33 : decode prog_23_method_19_code 33 = .ok (.istore 7, 2) := by decide +kernel
theorem d5_35 : decode prog_23_method_19_code 35 = .ok (.aload 4, 2) := by decide +kernel
theorem d5_37 : decode prog_23_method_19_code 37 = .ok (.iload 7, 2) := by decide +kernel
theorem d5_39 : decode prog_23_method_19_code 39 = .ok (.iaload, 1) := by decide +kernel
theorem d5_40 : decode prog_23_method_19_code 40 = .ok (.istore 8, 2) := by decide +kernel
theorem d5_42 : decode prog_23_method_19_code 42 = .ok (.aload_n 0, 1) := by decide +kernel
theorem d5_43 : decode prog_23_method_19_code 43 = .ok (.getfield 13, 3) := by decide +kernel
theorem d5_46 : decode prog_23_method_19_code 46 = .ok (.iload 8, 2) := by decide +kernel
theorem d5_48 : decode prog_23_method_19_code 48 = .ok (.iaload, 1) := by decide +kernel
theorem d5_49 : decode prog_23_method_19_code 49 = .ok (.iload_n 2, 1) := by decide +kernel
theorem d5_50 : decode prog_23_method_19_code 50 = .ok (.invokestatic 272, 3) := by decide +kernel
theorem d5_53 : decode prog_23_method_19_code 53 = .ok (.istore 9, 2) := by decide +kernel
theorem d5_55 : decode prog_23_method_19_code 55 = .ok (.iload 9, 2) := by decide +kernel
theorem d5_57 : decode prog_23_method_19_code 57 = .ok (.ifCond .eq 8, 3) := by decide +kernel
theorem d5_60 : decode prog_23_method_19_code 60 = .ok (.iload 9, 2) := by decide +kernel
theorem d5_62 : decode prog_23_method_19_code 62 = .ok (.goto 14, 3) := by decide +kernel
theorem d5_65 : decode prog_23_method_19_code 65 = .ok (.aload_n 0, 1) := by decide +kernel
theorem d5_66 : decode prog_23_method_19_code 66 = .ok (.getfield 17, 3) := by decide +kernel
theorem d5_69 : decode prog_23_method_19_code 69 = .ok (.iload 8, 2) := by decide +kernel
theorem d5_71 : decode prog_23_method_19_code 71 = .ok (.baload, 1) := by decide +kernel
theorem d5_72 : decode prog_23_method_19_code 72 = .ok (.iload_n 3, 1) := by decide +kernel
theorem d5_73 : decode prog_23_method_19_code 73 = .ok (.invokestatic 275, 3) := by decide +kernel
theorem d5_76 : decode prog_23_method_19_code 76 = .ok (.istore 10, 2) := by decide +kernel
theorem d5_78 : decode prog_23_method_19_code 78 = .ok (.iload 10, 2) := by decide +kernel
theorem d5_80 : decode prog_23_method_19_code 80 = .ok (.ifCond .ge 12, 3) := by decide +kernel
theorem d5_83 : decode prog_23_method_19_code 83 = .ok (.iload 7, 2) := by decide +kernel
theorem d5_85 : decode prog_23_method_19_code 85 = .ok (.iconst 1, 1) := by decide +kernel
theorem d5_86 : decode prog_23_method_19_code 86 = .ok (.iadd, 1) := by decide +kernel
theorem d5_87 : decode prog_23_method_19_code 87 = .ok (.istore 5, 2) := by decide +kernel
theorem d5_89 : decode prog_23_method_19_code 89 = .ok (.goto 7, 3) := by decide +kernel
theorem d5_92 : decode prog_23_method_19_code 92 = .ok (.iload 7, 2) := by decide +kernel
theorem d5_94 : decode prog_23_method_19_code 94 = .ok (.istore 6, 2) := by decide +kernel
theorem d5_96 : decode prog_23_method_19_code 96 = .ok (.goto (-77), 3) := by decide +kernel
theorem ef_5_1 (m : MethodId) (x0 : Addr) (x1 : Int32) (x2 : Int32) (x3 : Int32) : entryFrame m #[(.ref x0), (.int x1), (.int x2), (.int x3)] 11 = mkF m 0 #[.val (.ref x0), .val (.int x1), .val (.int x2), .val (.int x3), .unset, .unset, .unset, .unset, .unset, .unset, .unset] [] := by first | (simp [entryFrame, mkF, argsToLocals, Value.category]; done) | rfl
def Q5_1 (Z : State) (a1 : Addr) (p2 : Int32) (p3 : Int32) (p4 : Int32) (bi bf bp bc bn : Addr) (ki kf kp kc kn : ClassId) (IL FL PL NL : List Int32) (CV : List Value) (s4 : Addr) (k4 : ClassId) (t0_ t1_ t2_ t3_ : Int32) (k0_ f0_ : Int32) (h0 : Heap) (v : Option Value) (h : Heap) (L : List Loc) : Prop := v = some (.int (own_s_1 k0_ f0_ p3 p4)) ∧ L = [] ∧ h = h0
theorem rm5_1 (l : Launch) (Z : State) (a0 : Array Value) (hw : ∀ d ∈ tables_1, d.before a0 Z = true) (ws : List Jvm.Cond) (a1 : Addr) (p2 : Int32) (p3 : Int32) (p4 : Int32) (bi bf bp bc bn : Addr) (ki kf kp kc kn : ClassId) (IL FL PL NL : List Int32) (CV : List Value) (s4 : Addr) (k4 : ClassId) (t0_ t1_ t2_ t3_ : Int32) (k0_ f0_ : Int32) (h0 : Heap) (E_a1 : Exa Z h0 a1 "com/example/tidemine/tidemine/PatternTrie") (F_children : Fld Z h0 a1 "com/example/tidemine/tidemine/PatternTrie" "children" "[[I" (.ref bc)) (V_bc : Arv Z h0 bc kc (.array .int) (16 : Int32) CV .null) (F_childCounts : Fld Z h0 a1 "com/example/tidemine/tidemine/PatternTrie" "childCounts" "[I" (.ref bn)) (V_bn : Arv Z h0 bn kn .int (16 : Int32) (own_bs NL) (.int (0 : Int32))) (F_items : Fld Z h0 a1 "com/example/tidemine/tidemine/PatternTrie" "items" "[I" (.ref bi)) (V_bi : Arv Z h0 bi ki .int (16 : Int32) (own_bs IL) (.int (0 : Int32))) (F_sameEvents : Fld Z h0 a1 "com/example/tidemine/tidemine/PatternTrie" "sameEvents" "[Z" (.ref bf)) (V_bf : Arv Z h0 bf kf .boolean (16 : Int32) (own_bs FL) (.int (0 : Int32))) (hp : ¬ p2 < (0 : Int32) ∧ p2 < (16 : Int32)) (hcv : CV.getD p2.toNatClampNeg .null = .ref s4) (hnc : NL.getD p2.toNatClampNeg 0 = (1 : Int32)) (V_s4 : Arv Z h0 s4 k4 .int (4 : Int32) [(.int t0_), (.int t1_), (.int t2_), (.int t3_)] (.int (0 : Int32))) (hb0 : ¬ t0_ < (0 : Int32) ∧ t0_ < (16 : Int32)) (hk0 : IL.getD t0_.toNatClampNeg 0 = k0_) (hf0 : FL.getD t0_.toNatClampNeg 0 = f0_) :
    MetFree l mn_2 (head1 (Jvm.Cond.code mn_2 prog_23_method_19_code 11 (some .int) :: ws) ({ frames := 1, cells := 0, slots := 0, locals := 13 } : Room)) (fun a U => a = #[(.ref a1), (.int p2), (.int p3), (.int p4)] ∧ Z.Warmed39 U.vm ∧ U.heap = h0) (fun _ _ _ _ _ => True) (fun _ U o U' => ∃ v L, o = .returned v ∧ Q5_1 Z a1 p2 p3 p4 bi bf bp bc bn ki kf kp kc kn IL FL PL NL CV s4 k4 t0_ t1_ t2_ t3_ k0_ f0_ h0 v U'.heap L ∧ FrameEnd U o U' L ({ frames := 1, cells := 0, slots := 0, locals := 13 } : Room).cells ({ frames := 1, cells := 0, slots := 0, locals := 13 } : Room).slots) := by
  refine MetFree.of_bodySF (plainFor_of_name pn_2) hisR ?_
  intro p e s m args below meth c s₁ Bd hml0 hP hK
  obtain ⟨rfl, hZ, hh⟩ := hP
  have hx := Bd.exec
  have hby := Bd.bytes
  have hml : c.maxLocals = 11 := hml0
  have hown : s.vm.findClass "com/example/tidemine/tidemine/PatternTrie" = some m.cls := findClass_of_methodNamed Bd.named
  have hnm := (name_of_methodNamed Bd.named Bd.method).1
  have X0 : Stand p l e ({ frames := 1, cells := 0, slots := 0, locals := 13 } : Room) s m #[(.ref a1), (.int p2), (.int p3), (.int p4)] below meth c s₁ [] 0 0 := Stand.of_body Bd
  have e0 : s₁.heap = h0 := by rw [← hh, Bd.state]; rfl
  have pre0 : ∀ t, Steps p.tables e below (s₁.setTop (mkF m 0 #[.val (.ref a1), .val (.int p2), .val (.int p3), .val (.int p4), .unset, .unset, .unset, .unset, .unset, .unset, .unset] [])) t → Steps p.tables e below (s₁.setTop (entryFrame m #[(.ref a1), (.int p2), (.int p3), (.int p4)] 11)) t := fun t k => castTop (ef_5_1 m a1 p2 p3 p4) k
  obtain ⟨T1, X1, e1, st1⟩ := gF X0 hx hZ hown (ww hw 22 rfl) e0 F_children (g := (mkF m 1 #[vR a1, vI p2, vI p3, vI p4, .unset, .unset, .unset, .unset, .unset, .unset, .unset] [iR a1])) rfl rfl (hb hby d5_1)
  obtain ⟨cl2, Ar2, q2, S2, M2, H2, G2⟩ := id V_bc
  have hin3 := inb_of (j := p2) S2 hp
  have hat4 : cl2.slots[(p2).toNatClampNeg]? = some (.ref s4) := Has.at H2 hin3 hcv
  obtain ⟨T5, X5, e5, st5⟩ := gF X1 hx hZ hown (ww hw 24 rfl) e1 F_childCounts (g := (mkF m 12 #[vR a1, vI p2, vI p3, vI p4, vR s4, vI 0, .unset, .unset, .unset, .unset, .unset] [iR a1])) rfl rfl (hb hby d5_12)
  obtain ⟨cl6, Ar6, q6, S6, M6, H6, G6⟩ := id V_bn
  have hin7 := inb_of (j := p2) S6 hp
  have hat8 : cl6.slots[(p2).toNatClampNeg]? = some (.int (1 : Int32)) := Has.at H6 hin7 (by rw [own_bsget, hnc])
  obtain ⟨cl9, Ar9, q9, S9, M9, H9, G9⟩ := id V_s4
  have hin10 := inb_of (j := (0 : Int32)) S9 ⟨by decide, by decide⟩
  obtain ⟨T12, X12, e12, st12⟩ := gF X5 hx hZ hown (ww hw 13 rfl) e5 F_items (g := (mkF m 43 #[vR a1, vI p2, vI p3, vI p4, vR s4, vI 0, vI 1, vI 0, vI t0_, .unset, .unset] [iR a1])) rfl rfl (hb hby d5_43)
  obtain ⟨cl13, Ar13, q13, S13, M13, H13, G13⟩ := id V_bi
  have hin14 := inb_of (j := t0_) S13 hb0
  have hat15 : cl13.slots[(t0_).toNatClampNeg]? = some (.int k0_) := Has.at H13 hin14 (by rw [own_bsget, hk0])
  obtain ⟨_, _, ⟨T16, L16, k16, n16⟩, -, X16, ⟨Lc16, hQ16, l16, y16, z16⟩, st16⟩ := Jvm.LawKit.callS X12 hx (y := mn_0) hown (mvT hZ (ww hw 44 rfl)) (mvT hZ (ww hw 45 rfl)) (mvT hZ (ww hw 46 rfl)) (mvT hZ (ww hw 47 rfl)) (by decide) (backOf (W := 0) (rm6 l Z a0 hw [] k0_ p3 h0 ) hZ (ww hw 47 rfl) (ww hw 46 rfl) (by decide) (by decide)) (g := (mkF m 50 #[vR a1, vI p2, vI p3, vI p4, vR s4, vI 0, vI 1, vI 0, vI t0_, .unset, .unset] [iI p3, iI k0_])) rfl (by rw [hml]; rfl) (argsL := [(.int k0_), (.int p3)]) (rest := []) (lenOf pd_0 rfl) rfl (wz rfl) (hb hby d5_50) (fun _ _ => ⟨rfl, e12, (by decide : 0 + 0 ≤ _), (by decide : 0 + 0 ≤ _)⟩)
  dsimp only [Pt.U, Pt.locs, Pt.cells, Pt.slots] at X16 l16 y16 z16 st16 hQ16
  subst l16 y16 z16
  obtain ⟨rfl, rfl, e16⟩ := hQ16
  try rw [List.append_nil] at X16
  obtain ⟨v17, hv17⟩ : ∃ z : Int32, z = (if (own_ic k0_ p3) = (0 : Int32) then (own_bc f0_ p4) else (own_ic k0_ p3)) := ⟨_, rfl⟩
  obtain ⟨T18, X18, e18, st18⟩ : own_Mid X16 h0 (mkF m 57 #[vR a1, vI p2, vI p3, vI p4, vR s4, vI 0, vI 1, vI 0, vI t0_, vI (own_ic k0_ p3), .unset] [iI (own_ic k0_ p3)]) (mkF m 76 #[vR a1, vI p2, vI p3, vI p4, vR s4, vI 0, vI 1, vI 0, vI t0_, vI (own_ic k0_ p3), .unset] [iI v17]) := by
    by_cases hc19 : (own_ic k0_ p3) = (0 : Int32)
    · obtain ⟨T20, X20, e20, st20⟩ := gF X16 hx hZ hown (ww hw 16 rfl) e16 F_sameEvents (g := (mkF m 66 #[vR a1, vI p2, vI p3, vI p4, vR s4, vI 0, vI 1, vI 0, vI t0_, vI (own_ic k0_ p3), .unset] [iR a1])) rfl rfl (hb hby d5_66)
      obtain ⟨cl21, Ar21, q21, S21, M21, H21, G21⟩ := id V_bf
      have hin22 := inb_of (j := t0_) S21 hb0
      have hat23 : cl21.slots[(t0_).toNatClampNeg]? = some (.int f0_) := Has.at H21 hin22 (by rw [own_bsget, hf0])
      obtain ⟨_, _, ⟨T24, L24, k24, n24⟩, -, X24, ⟨Lc24, hQ24, l24, y24, z24⟩, st24⟩ := Jvm.LawKit.callS X20 hx (y := mn_1) hown (mvT hZ (ww hw 58 rfl)) (mvT hZ (ww hw 59 rfl)) (mvT hZ (ww hw 60 rfl)) (mvT hZ (ww hw 61 rfl)) (by decide) (backOf (W := 0) (rm9 l Z a0 hw [] f0_ p4 h0 ) hZ (ww hw 61 rfl) (ww hw 60 rfl) (by decide) (by decide)) (g := (mkF m 73 #[vR a1, vI p2, vI p3, vI p4, vR s4, vI 0, vI 1, vI 0, vI t0_, vI (own_ic k0_ p3), .unset] [iI p4, iI f0_])) rfl (by rw [hml]; rfl) (argsL := [(.int f0_), (.int p4)]) (rest := []) (lenOf pd_1 rfl) rfl (wz rfl) (hb hby d5_73) (fun _ _ => ⟨rfl, e20, (by decide : 0 + 0 ≤ _), (by decide : 0 + 0 ≤ _)⟩)
      dsimp only [Pt.U, Pt.locs, Pt.cells, Pt.slots] at X24 l24 y24 z24 st24 hQ24
      subst l24 y24 z24
      obtain ⟨rfl, rfl, e24⟩ := hQ24
      try rw [List.append_nil] at X24
      refine ⟨T24, X24, e24, fun t kt => ?_⟩
      subst hv17
      simp only [if_pos hc19] at kt
      refine XS.ifYes X16.here hx rfl (pc0 := 57) (pc' := 65) rfl (hb hby d5_57) rfl ((if0 _ _).trans (teq hc19).1) (by decide) (by decide) ?_
      refine XS.aloadN X16.here hx rfl (hb hby d5_65) rfl rfl ?_
      refine st20 _ ?_
      refine XS.iload X20.here hx rfl (hb hby d5_69) rfl ?_
      refine X20.baloadBooleans hx (j := t0_) (v := (.int f0_)) (by rw [e20]; exact Ar21.1) (State.isArrayOf_alike hZ.alike Ar21.2.1) Ar21.2.2 hin22 hat23 (g := (mkF m 71 #[vR a1, vI p2, vI p3, vI p4, vR s4, vI 0, vI 1, vI 0, vI t0_, vI (own_ic k0_ p3), .unset] [iI t0_, iR bf])) rfl rfl (hb hby d5_71) _ ?_
      refine XS.iloadN X20.here hx rfl (hb hby d5_72) rfl ?_
      refine st24 _ ?_
      exact kt
    · refine ⟨T16, X16, e16, fun t kt => ?_⟩
      subst hv17
      simp only [if_neg hc19] at kt
      refine XS.ifNo X16.here hx rfl (hb hby d5_57) rfl ((if0 _ _).trans (feq hc19).1) ?_
      refine XS.iload X16.here hx rfl (hb hby d5_60) rfl ?_
      refine XS.goto X16.here hx rfl (pc0 := 62) (pc' := 76) rfl (hb hby d5_62) (by decide) (by decide) ?_
      exact kt
  have pre26 : ∀ t, Steps p.tables e below (T18.setTop (mkF m 80 #[vR a1, vI p2, vI p3, vI p4, vR s4, vI 0, vI 1, vI 0, vI t0_, vI (own_ic k0_ p3), vI v17] [iI v17])) t → Steps p.tables e below (s₁.setTop (entryFrame m #[(.ref a1), (.int p2), (.int p3), (.int p4)] 11)) t := by
    intro t kt
    refine pre0 t ?_
    refine XS.aloadN X0.here hx rfl (hb hby d5_0) rfl rfl ?_
    refine st1 _ ?_
    refine XS.iloadN X1.here hx rfl (hb hby d5_4) rfl ?_
    refine X1.aaload hx (j := p2) (v := (.ref s4)) (by rw [e1]; exact Ar2.1) (State.isArrayOf_alike hZ.alike Ar2.2.1) rfl Ar2.2.2 hin3 hat4 (g := (mkF m 5 #[vR a1, vI p2, vI p3, vI p4, .unset, .unset, .unset, .unset, .unset, .unset, .unset] [iI p2, iR bc])) rfl rfl (hb hby d5_5) _ ?_
    refine XS.astore X1.here hx rfl (hb hby d5_6) rfl rfl (l' := #[vR a1, vI p2, vI p3, vI p4, vR s4, .unset, .unset, .unset, .unset, .unset, .unset]) rfl ?_
    refine XS.iconst X1.here hx rfl (hb hby d5_8) ?_
    refine XS.istore X1.here hx rfl (hb hby d5_9) rfl (l' := #[vR a1, vI p2, vI p3, vI p4, vR s4, vI 0, .unset, .unset, .unset, .unset, .unset]) rfl ?_
    refine XS.aloadN X1.here hx rfl (hb hby d5_11) rfl rfl ?_
    refine st5 _ ?_
    refine XS.iloadN X5.here hx rfl (hb hby d5_15) rfl ?_
    refine X5.iaload hx (j := p2) (v := (.int (1 : Int32))) (by rw [e5]; exact Ar6.1) (State.isArrayOf_alike hZ.alike Ar6.2.1) Ar6.2.2 hin7 hat8 (g := (mkF m 16 #[vR a1, vI p2, vI p3, vI p4, vR s4, vI 0, .unset, .unset, .unset, .unset, .unset] [iI p2, iR bn])) rfl rfl (hb hby d5_16) _ ?_
    refine XS.istore X5.here hx rfl (hb hby d5_17) rfl (l' := #[vR a1, vI p2, vI p3, vI p4, vR s4, vI 0, vI 1, .unset, .unset, .unset, .unset]) rfl ?_
    refine XS.iload X5.here hx rfl (hb hby d5_19) rfl ?_
    refine XS.iload X5.here hx rfl (hb hby d5_21) rfl ?_
    refine XS.icmpNo X5.here hx rfl (hb hby d5_23) rfl (tlt (by decide : (0 : Int32) < (1 : Int32))).2.1 ?_
    refine XS.iload X5.here hx rfl (hb hby d5_26) rfl ?_
    refine XS.iload X5.here hx rfl (hb hby d5_28) rfl ?_
    refine XS.iadd X5.here hx rfl (hb hby d5_30) rfl ?_
    show SA T5 m 31 #[vR a1, vI p2, vI p3, vI p4, vR s4, vI 0, vI 1, .unset, .unset, .unset, .unset] [iI ((0 : Int32) + (1 : Int32))]
    rw [(by decide : ((0 : Int32) + (1 : Int32)) = (1 : Int32))]
    refine XS.iconst X5.here hx rfl (hb hby d5_31) ?_
    refine XS.iushr X5.here hx rfl (hb hby d5_32) rfl ?_
    show SA T5 m 33 #[vR a1, vI p2, vI p3, vI p4, vR s4, vI 0, vI 1, .unset, .unset, .unset, .unset] [iI (((1 : Int32).toUInt32 >>> ((1 : Int32) &&& 31).toUInt32).toInt32)]
    rw [(by decide : (((1 : Int32).toUInt32 >>> ((1 : Int32) &&& 31).toUInt32).toInt32) = (0 : Int32))]
    refine XS.istore X5.here hx rfl (hb hby d5_33) rfl (l' := #[vR a1, vI p2, vI p3, vI p4, vR s4, vI 0, vI 1, vI 0, .unset, .unset, .unset]) rfl ?_
    refine XS.aload X5.here hx rfl (hb hby d5_35) rfl rfl ?_
    refine XS.iload X5.here hx rfl (hb hby d5_37) rfl ?_
    refine X5.iaload hx (j := (0 : Int32)) (v := (.int t0_)) (by rw [e5]; exact Ar9.1) (State.isArrayOf_alike hZ.alike Ar9.2.1) Ar9.2.2 hin10 (Has.at H9 hin10 rfl) (g := (mkF m 39 #[vR a1, vI p2, vI p3, vI p4, vR s4, vI 0, vI 1, vI 0, .unset, .unset, .unset] [iI 0, iR s4])) rfl rfl (hb hby d5_39) _ ?_
    refine XS.istore X5.here hx rfl (hb hby d5_40) rfl (l' := #[vR a1, vI p2, vI p3, vI p4, vR s4, vI 0, vI 1, vI 0, vI t0_, .unset, .unset]) rfl ?_
    refine XS.aloadN X5.here hx rfl (hb hby d5_42) rfl rfl ?_
    refine st12 _ ?_
    refine XS.iload X12.here hx rfl (hb hby d5_46) rfl ?_
    refine X12.iaload hx (j := t0_) (v := (.int k0_)) (by rw [e12]; exact Ar13.1) (State.isArrayOf_alike hZ.alike Ar13.2.1) Ar13.2.2 hin14 hat15 (g := (mkF m 48 #[vR a1, vI p2, vI p3, vI p4, vR s4, vI 0, vI 1, vI 0, vI t0_, .unset, .unset] [iI t0_, iR bi])) rfl rfl (hb hby d5_48) _ ?_
    refine XS.iloadN X12.here hx rfl (hb hby d5_49) rfl ?_
    refine st16 _ ?_
    refine XS.istore X16.here hx rfl (hb hby d5_53) rfl (l' := #[vR a1, vI p2, vI p3, vI p4, vR s4, vI 0, vI 1, vI 0, vI t0_, vI (own_ic k0_ p3), .unset]) rfl ?_
    refine XS.iload X16.here hx rfl (hb hby d5_55) rfl ?_
    refine st18 _ ?_
    refine XS.istore X18.here hx rfl (hb hby d5_76) rfl (l' := #[vR a1, vI p2, vI p3, vI p4, vR s4, vI 0, vI 1, vI 0, vI t0_, vI (own_ic k0_ p3), vI v17]) rfl ?_
    refine XS.iload X18.here hx rfl (hb hby d5_78) rfl ?_
    exact kt
  by_cases hc25 : v17 < (0 : Int32)
  · obtain ⟨fs, hr, hrun, hended, hW, hsame⟩ := X18.leave (v := some (.int (1 : Int32))) (fun h => by rw [Bd.returns] at h; cases h)
    refine ⟨_, _, pre26 _ ?_, hrun, hended, _, _, rfl, ?_, ⟨_, rfl⟩, hW, hsame.mono (by decide) (by decide)⟩
    · refine XS.ifNo X18.here hx rfl (hb hby d5_80) rfl ((if0 _ _).trans (tlt hc25).2.1) ?_
      refine XS.iload X18.here hx rfl (hb hby d5_83) rfl ?_
      refine XS.iconst X18.here hx rfl (hb hby d5_85) ?_
      refine XS.iadd X18.here hx rfl (hb hby d5_86) rfl ?_
      show SA T18 m 87 #[vR a1, vI p2, vI p3, vI p4, vR s4, vI 0, vI 1, vI 0, vI t0_, vI (own_ic k0_ p3), vI v17] [iI ((0 : Int32) + (1 : Int32))]
      rw [(by decide : ((0 : Int32) + (1 : Int32)) = (1 : Int32))]
      refine XS.istore X18.here hx rfl (hb hby d5_87) rfl (l' := #[vR a1, vI p2, vI p3, vI p4, vR s4, vI 1, vI 1, vI 0, vI t0_, vI (own_ic k0_ p3), vI v17]) rfl ?_
      refine XS.goto X18.here hx rfl (pc0 := 89) (pc' := 96) rfl (hb hby d5_89) (by decide) (by decide) ?_
      refine XS.goto X18.here hx rfl (pc0 := 96) (pc' := 19) rfl (hb hby d5_96) (by decide) (by decide) ?_
      refine XS.iload X18.here hx rfl (hb hby d5_19) rfl ?_
      refine XS.iload X18.here hx rfl (hb hby d5_21) rfl ?_
      refine XS.icmpYes X18.here hx rfl (pc0 := 23) (pc' := 99) rfl (hb hby d5_23) rfl (flt (by decide : ¬ ((1 : Int32) < (1 : Int32)))).2.1 (by decide) (by decide) ?_
      refine XS.iload X18.here hx rfl (hb hby d5_99) rfl ?_
      show Steps _ _ _ (T18.setTop (mkF m 101 #[vR a1, vI p2, vI p3, vI p4, vR s4, vI 1, vI 1, vI 0, vI t0_, vI (own_ic k0_ p3), vI v17] [iI 1])) _
      exact retI X18 hx Bd.returns (hb hby d5_101) hr
    · show Q5_1 Z a1 p2 p3 p4 bi bf bp bc bn ki kf kp kc kn IL FL PL NL CV s4 k4 t0_ t1_ t2_ t3_ k0_ f0_ h0 _ T18.heap _
      rw [e18]
      exact ⟨by subst hv17; first | rfl | (simp only [own_s_1, if_pos hc25]; done) | (simp only [own_s_1, if_pos hc25]; rfl) | (simp only [own_s_1, if_pos hc25, nar] ; first | rfl | (simp; done) | decide), rfl, rfl⟩
  · obtain ⟨fs, hr, hrun, hended, hW, hsame⟩ := X18.leave (v := some (.int (0 : Int32))) (fun h => by rw [Bd.returns] at h; cases h)
    refine ⟨_, _, pre26 _ ?_, hrun, hended, _, _, rfl, ?_, ⟨_, rfl⟩, hW, hsame.mono (by decide) (by decide)⟩
    · refine XS.ifYes X18.here hx rfl (pc0 := 80) (pc' := 92) rfl (hb hby d5_80) rfl ((if0 _ _).trans (flt hc25).2.1) (by decide) (by decide) ?_
      refine XS.iload X18.here hx rfl (hb hby d5_92) rfl ?_
      refine XS.istore X18.here hx rfl (hb hby d5_94) rfl (l' := #[vR a1, vI p2, vI p3, vI p4, vR s4, vI 0, vI 0, vI 0, vI t0_, vI (own_ic k0_ p3), vI v17]) rfl ?_
      refine XS.goto X18.here hx rfl (pc0 := 96) (pc' := 19) rfl (hb hby d5_96) (by decide) (by decide) ?_
      refine XS.iload X18.here hx rfl (hb hby d5_19) rfl ?_
      refine XS.iload X18.here hx rfl (hb hby d5_21) rfl ?_
      show SA T18 m 23 #[vR a1, vI p2, vI p3, vI p4, vR s4, vI 0, vI 0, vI 0, vI t0_, vI (own_ic k0_ p3), vI v17] [iI 0, iI 0]
      refine XS.icmpYes X18.here hx rfl (pc0 := 23) (pc' := 99) rfl (hb hby d5_23) rfl (flt (by decide : ¬ ((0 : Int32) < (0 : Int32)))).2.1 (by decide) (by decide) ?_
      refine XS.iload X18.here hx rfl (hb hby d5_99) rfl ?_
      show Steps _ _ _ (T18.setTop (mkF m 101 #[vR a1, vI p2, vI p3, vI p4, vR s4, vI 0, vI 0, vI 0, vI t0_, vI (own_ic k0_ p3), vI v17] [iI 0])) _
      exact retI X18 hx Bd.returns (hb hby d5_101) hr
    · show Q5_1 Z a1 p2 p3 p4 bi bf bp bc bn ki kf kp kc kn IL FL PL NL CV s4 k4 t0_ t1_ t2_ t3_ k0_ f0_ h0 _ T18.heap _
      rw [e18]
      exact ⟨by subst hv17; first | rfl | (simp only [own_s_1, if_neg hc25]; done) | (simp only [own_s_1, if_neg hc25]; rfl) | (simp only [own_s_1, if_neg hc25, nar] ; first | rfl | (simp; done) | decide), rfl, rfl⟩
def Q5_1v (Z : State) (a1 : Addr) (p2 : Int32) (p3 : Int32) (p4 : Int32) (bi bf bp bc bn : Addr) (ki kf kp kc kn : ClassId) (IL FL PL NL : List Int32) (CV : List Value) (s4 : Addr) (k4 : ClassId) (t0_ t1_ t2_ t3_ : Int32) (k0_ f0_ : Int32) (at_ : Int32) (h0 : Heap) (v : Option Value) (h : Heap) (L : List Loc) : Prop := v = some (.int at_) ∧ L = [] ∧ h = h0
theorem rm5_1v (l : Launch) (Z : State) (a0 : Array Value) (hw : ∀ d ∈ tables_1, d.before a0 Z = true) (ws : List Jvm.Cond) (a1 : Addr) (p2 : Int32) (p3 : Int32) (p4 : Int32) (bi bf bp bc bn : Addr) (ki kf kp kc kn : ClassId) (IL FL PL NL : List Int32) (CV : List Value) (s4 : Addr) (k4 : ClassId) (t0_ t1_ t2_ t3_ : Int32) (k0_ f0_ : Int32) (at_ : Int32) (h0 : Heap) (E_a1 : Exa Z h0 a1 "com/example/tidemine/tidemine/PatternTrie") (F_children : Fld Z h0 a1 "com/example/tidemine/tidemine/PatternTrie" "children" "[[I" (.ref bc)) (V_bc : Arv Z h0 bc kc (.array .int) (16 : Int32) CV .null) (F_childCounts : Fld Z h0 a1 "com/example/tidemine/tidemine/PatternTrie" "childCounts" "[I" (.ref bn)) (V_bn : Arv Z h0 bn kn .int (16 : Int32) (own_bs NL) (.int (0 : Int32))) (F_items : Fld Z h0 a1 "com/example/tidemine/tidemine/PatternTrie" "items" "[I" (.ref bi)) (V_bi : Arv Z h0 bi ki .int (16 : Int32) (own_bs IL) (.int (0 : Int32))) (F_sameEvents : Fld Z h0 a1 "com/example/tidemine/tidemine/PatternTrie" "sameEvents" "[Z" (.ref bf)) (V_bf : Arv Z h0 bf kf .boolean (16 : Int32) (own_bs FL) (.int (0 : Int32))) (hp : ¬ p2 < (0 : Int32) ∧ p2 < (16 : Int32)) (hcv : CV.getD p2.toNatClampNeg .null = .ref s4) (hnc : NL.getD p2.toNatClampNeg 0 = (1 : Int32)) (V_s4 : Arv Z h0 s4 k4 .int (4 : Int32) [(.int t0_), (.int t1_), (.int t2_), (.int t3_)] (.int (0 : Int32))) (hb0 : ¬ t0_ < (0 : Int32) ∧ t0_ < (16 : Int32)) (hk0 : IL.getD t0_.toNatClampNeg 0 = k0_) (hf0 : FL.getD t0_.toNatClampNeg 0 = f0_) (hat : own_s_1 k0_ f0_ p3 p4 = at_) :
    MetFree l mn_2 (head1 (Jvm.Cond.code mn_2 prog_23_method_19_code 11 (some .int) :: ws) ({ frames := 1, cells := 0, slots := 0, locals := 13 } : Room)) (fun a U => a = #[(.ref a1), (.int p2), (.int p3), (.int p4)] ∧ Z.Warmed39 U.vm ∧ U.heap = h0) (fun _ _ _ _ _ => True) (fun _ U o U' => ∃ v L, o = .returned v ∧ Q5_1v Z a1 p2 p3 p4 bi bf bp bc bn ki kf kp kc kn IL FL PL NL CV s4 k4 t0_ t1_ t2_ t3_ k0_ f0_ at_ h0 v U'.heap L ∧ FrameEnd U o U' L ({ frames := 1, cells := 0, slots := 0, locals := 13 } : Room).cells ({ frames := 1, cells := 0, slots := 0, locals := 13 } : Room).slots) := by
  subst hat
  exact rm5_1 l Z a0 hw ws a1 p2 p3 p4 bi bf bp bc bn ki kf kp kc kn IL FL PL NL CV s4 k4 t0_ t1_ t2_ t3_ k0_ f0_ h0 E_a1 F_children V_bc F_childCounts V_bn F_items V_bi F_sameEvents V_bf hp hcv hnc V_s4 hb0 hk0 hf0
def own_s_2 (k0_ : Int32) (f0_ : Int32) (k1_ : Int32) (f1_ : Int32) (p3 : Int32) (p4 : Int32) : Int32 := (if (if (own_ic k1_ p3) = (0 : Int32) then (own_bc f1_ p4) else (own_ic k1_ p3)) < (0 : Int32) then (2 : Int32) else (if (if (own_ic k0_ p3) = (0 : Int32) then (own_bc f0_ p4) else (own_ic k0_ p3)) < (0 : Int32) then (1 : Int32) else (0 : Int32)))
theorem ef_5_2 (m : MethodId) (x0 : Addr) (x1 : Int32) (x2 : Int32) (x3 : Int32) : entryFrame m #[(.ref x0), (.int x1), (.int x2), (.int x3)] 11 = mkF m 0 #[.val (.ref x0), .val (.int x1), .val (.int x2), .val (.int x3), .unset, .unset, .unset, .unset, .unset, .unset, .unset] [] := by first | (simp [entryFrame, mkF, argsToLocals, Value.category]; done) | rfl
def Q5_2 (Z : State) (a1 : Addr) (p2 : Int32) (p3 : Int32) (p4 : Int32) (bi bf bp bc bn : Addr) (ki kf kp kc kn : ClassId) (IL FL PL NL : List Int32) (CV : List Value) (s4 : Addr) (k4 : ClassId) (t0_ t1_ t2_ t3_ : Int32) (k0_ f0_ k1_ f1_ : Int32) (h0 : Heap) (v : Option Value) (h : Heap) (L : List Loc) : Prop := v = some (.int (own_s_2 k0_ f0_ k1_ f1_ p3 p4)) ∧ L = [] ∧ h = h0
theorem rm5_2 (l : Launch) (Z : State) (a0 : Array Value) (hw : ∀ d ∈ tables_1, d.before a0 Z = true) (ws : List Jvm.Cond) (a1 : Addr) (p2 : Int32) (p3 : Int32) (p4 : Int32) (bi bf bp bc bn : Addr) (ki kf kp kc kn : ClassId) (IL FL PL NL : List Int32) (CV : List Value) (s4 : Addr) (k4 : ClassId) (t0_ t1_ t2_ t3_ : Int32) (k0_ f0_ k1_ f1_ : Int32) (h0 : Heap) (E_a1 : Exa Z h0 a1 "com/example/tidemine/tidemine/PatternTrie") (F_children : Fld Z h0 a1 "com/example/tidemine/tidemine/PatternTrie" "children" "[[I" (.ref bc)) (V_bc : Arv Z h0 bc kc (.array .int) (16 : Int32) CV .null) (F_childCounts : Fld Z h0 a1 "com/example/tidemine/tidemine/PatternTrie" "childCounts" "[I" (.ref bn)) (V_bn : Arv Z h0 bn kn .int (16 : Int32) (own_bs NL) (.int (0 : Int32))) (F_items : Fld Z h0 a1 "com/example/tidemine/tidemine/PatternTrie" "items" "[I" (.ref bi)) (V_bi : Arv Z h0 bi ki .int (16 : Int32) (own_bs IL) (.int (0 : Int32))) (F_sameEvents : Fld Z h0 a1 "com/example/tidemine/tidemine/PatternTrie" "sameEvents" "[Z" (.ref bf)) (V_bf : Arv Z h0 bf kf .boolean (16 : Int32) (own_bs FL) (.int (0 : Int32))) (hp : ¬ p2 < (0 : Int32) ∧ p2 < (16 : Int32)) (hcv : CV.getD p2.toNatClampNeg .null = .ref s4) (hnc : NL.getD p2.toNatClampNeg 0 = (2 : Int32)) (V_s4 : Arv Z h0 s4 k4 .int (4 : Int32) [(.int t0_), (.int t1_), (.int t2_), (.int t3_)] (.int (0 : Int32))) (hb0 : ¬ t0_ < (0 : Int32) ∧ t0_ < (16 : Int32)) (hk0 : IL.getD t0_.toNatClampNeg 0 = k0_) (hf0 : FL.getD t0_.toNatClampNeg 0 = f0_) (hb1 : ¬ t1_ < (0 : Int32) ∧ t1_ < (16 : Int32)) (hk1 : IL.getD t1_.toNatClampNeg 0 = k1_) (hf1 : FL.getD t1_.toNatClampNeg 0 = f1_) :
    MetFree l mn_2 (head1 (Jvm.Cond.code mn_2 prog_23_method_19_code 11 (some .int) :: ws) ({ frames := 1, cells := 0, slots := 0, locals := 13 } : Room)) (fun a U => a = #[(.ref a1), (.int p2), (.int p3), (.int p4)] ∧ Z.Warmed39 U.vm ∧ U.heap = h0) (fun _ _ _ _ _ => True) (fun _ U o U' => ∃ v L, o = .returned v ∧ Q5_2 Z a1 p2 p3 p4 bi bf bp bc bn ki kf kp kc kn IL FL PL NL CV s4 k4 t0_ t1_ t2_ t3_ k0_ f0_ k1_ f1_ h0 v U'.heap L ∧ FrameEnd U o U' L ({ frames := 1, cells := 0, slots := 0, locals := 13 } : Room).cells ({ frames := 1, cells := 0, slots := 0, locals := 13 } : Room).slots) := by
  refine MetFree.of_bodySF (plainFor_of_name pn_2) hisR ?_
  intro p e s m args below meth c s₁ Bd hml0 hP hK
  obtain ⟨rfl, hZ, hh⟩ := hP
  have hx := Bd.exec
  have hby := Bd.bytes
  have hml : c.maxLocals = 11 := hml0
  have hown : s.vm.findClass "com/example/tidemine/tidemine/PatternTrie" = some m.cls := findClass_of_methodNamed Bd.named
  have hnm := (name_of_methodNamed Bd.named Bd.method).1
  have X0 : Stand p l e ({ frames := 1, cells := 0, slots := 0, locals := 13 } : Room) s m #[(.ref a1), (.int p2), (.int p3), (.int p4)] below meth c s₁ [] 0 0 := Stand.of_body Bd
  have e0 : s₁.heap = h0 := by rw [← hh, Bd.state]; rfl
  have pre0 : ∀ t, Steps p.tables e below (s₁.setTop (mkF m 0 #[.val (.ref a1), .val (.int p2), .val (.int p3), .val (.int p4), .unset, .unset, .unset, .unset, .unset, .unset, .unset] [])) t → Steps p.tables e below (s₁.setTop (entryFrame m #[(.ref a1), (.int p2), (.int p3), (.int p4)] 11)) t := fun t k => castTop (ef_5_2 m a1 p2 p3 p4) k
  obtain ⟨T1, X1, e1, st1⟩ := gF X0 hx hZ hown (ww hw 22 rfl) e0 F_children (g := (mkF m 1 #[vR a1, vI p2, vI p3, vI p4, .unset, .unset, .unset, .unset, .unset, .unset, .unset] [iR a1])) rfl rfl (hb hby d5_1)
  obtain ⟨cl2, Ar2, q2, S2, M2, H2, G2⟩ := id V_bc
  have hin3 := inb_of (j := p2) S2 hp
  have hat4 : cl2.slots[(p2).toNatClampNeg]? = some (.ref s4) := Has.at H2 hin3 hcv
  obtain ⟨T5, X5, e5, st5⟩ := gF X1 hx hZ hown (ww hw 24 rfl) e1 F_childCounts (g := (mkF m 12 #[vR a1, vI p2, vI p3, vI p4, vR s4, vI 0, .unset, .unset, .unset, .unset, .unset] [iR a1])) rfl rfl (hb hby d5_12)
  obtain ⟨cl6, Ar6, q6, S6, M6, H6, G6⟩ := id V_bn
  have hin7 := inb_of (j := p2) S6 hp
  have hat8 : cl6.slots[(p2).toNatClampNeg]? = some (.int (2 : Int32)) := Has.at H6 hin7 (by rw [own_bsget, hnc])
  obtain ⟨cl9, Ar9, q9, S9, M9, H9, G9⟩ := id V_s4
  have hin10 := inb_of (j := (1 : Int32)) S9 ⟨by decide, by decide⟩
  obtain ⟨T12, X12, e12, st12⟩ := gF X5 hx hZ hown (ww hw 13 rfl) e5 F_items (g := (mkF m 43 #[vR a1, vI p2, vI p3, vI p4, vR s4, vI 0, vI 2, vI 1, vI t1_, .unset, .unset] [iR a1])) rfl rfl (hb hby d5_43)
  obtain ⟨cl13, Ar13, q13, S13, M13, H13, G13⟩ := id V_bi
  have hin14 := inb_of (j := t1_) S13 hb1
  have hat15 : cl13.slots[(t1_).toNatClampNeg]? = some (.int k1_) := Has.at H13 hin14 (by rw [own_bsget, hk1])
  obtain ⟨_, _, ⟨T16, L16, k16, n16⟩, -, X16, ⟨Lc16, hQ16, l16, y16, z16⟩, st16⟩ := Jvm.LawKit.callS X12 hx (y := mn_0) hown (mvT hZ (ww hw 44 rfl)) (mvT hZ (ww hw 45 rfl)) (mvT hZ (ww hw 46 rfl)) (mvT hZ (ww hw 47 rfl)) (by decide) (backOf (W := 0) (rm6 l Z a0 hw [] k1_ p3 h0 ) hZ (ww hw 47 rfl) (ww hw 46 rfl) (by decide) (by decide)) (g := (mkF m 50 #[vR a1, vI p2, vI p3, vI p4, vR s4, vI 0, vI 2, vI 1, vI t1_, .unset, .unset] [iI p3, iI k1_])) rfl (by rw [hml]; rfl) (argsL := [(.int k1_), (.int p3)]) (rest := []) (lenOf pd_0 rfl) rfl (wz rfl) (hb hby d5_50) (fun _ _ => ⟨rfl, e12, (by decide : 0 + 0 ≤ _), (by decide : 0 + 0 ≤ _)⟩)
  dsimp only [Pt.U, Pt.locs, Pt.cells, Pt.slots] at X16 l16 y16 z16 st16 hQ16
  subst l16 y16 z16
  obtain ⟨rfl, rfl, e16⟩ := hQ16
  try rw [List.append_nil] at X16
  obtain ⟨v17, hv17⟩ : ∃ z : Int32, z = (if (own_ic k1_ p3) = (0 : Int32) then (own_bc f1_ p4) else (own_ic k1_ p3)) := ⟨_, rfl⟩
  obtain ⟨T18, X18, e18, st18⟩ : own_Mid X16 h0 (mkF m 57 #[vR a1, vI p2, vI p3, vI p4, vR s4, vI 0, vI 2, vI 1, vI t1_, vI (own_ic k1_ p3), .unset] [iI (own_ic k1_ p3)]) (mkF m 76 #[vR a1, vI p2, vI p3, vI p4, vR s4, vI 0, vI 2, vI 1, vI t1_, vI (own_ic k1_ p3), .unset] [iI v17]) := by
    by_cases hc19 : (own_ic k1_ p3) = (0 : Int32)
    · obtain ⟨T20, X20, e20, st20⟩ := gF X16 hx hZ hown (ww hw 16 rfl) e16 F_sameEvents (g := (mkF m 66 #[vR a1, vI p2, vI p3, vI p4, vR s4, vI 0, vI 2, vI 1, vI t1_, vI (own_ic k1_ p3), .unset] [iR a1])) rfl rfl (hb hby d5_66)
      obtain ⟨cl21, Ar21, q21, S21, M21, H21, G21⟩ := id V_bf
      have hin22 := inb_of (j := t1_) S21 hb1
      have hat23 : cl21.slots[(t1_).toNatClampNeg]? = some (.int f1_) := Has.at H21 hin22 (by rw [own_bsget, hf1])
      obtain ⟨_, _, ⟨T24, L24, k24, n24⟩, -, X24, ⟨Lc24, hQ24, l24, y24, z24⟩, st24⟩ := Jvm.LawKit.callS X20 hx (y := mn_1) hown (mvT hZ (ww hw 58 rfl)) (mvT hZ (ww hw 59 rfl)) (mvT hZ (ww hw 60 rfl)) (mvT hZ (ww hw 61 rfl)) (by decide) (backOf (W := 0) (rm9 l Z a0 hw [] f1_ p4 h0 ) hZ (ww hw 61 rfl) (ww hw 60 rfl) (by decide) (by decide)) (g := (mkF m 73 #[vR a1, vI p2, vI p3, vI p4, vR s4, vI 0, vI 2, vI 1, vI t1_, vI (own_ic k1_ p3), .unset] [iI p4, iI f1_])) rfl (by rw [hml]; rfl) (argsL := [(.int f1_), (.int p4)]) (rest := []) (lenOf pd_1 rfl) rfl (wz rfl) (hb hby d5_73) (fun _ _ => ⟨rfl, e20, (by decide : 0 + 0 ≤ _), (by decide : 0 + 0 ≤ _)⟩)
      dsimp only [Pt.U, Pt.locs, Pt.cells, Pt.slots] at X24 l24 y24 z24 st24 hQ24
      subst l24 y24 z24
      obtain ⟨rfl, rfl, e24⟩ := hQ24
      try rw [List.append_nil] at X24
      refine ⟨T24, X24, e24, fun t kt => ?_⟩
      subst hv17
      simp only [if_pos hc19] at kt
      refine XS.ifYes X16.here hx rfl (pc0 := 57) (pc' := 65) rfl (hb hby d5_57) rfl ((if0 _ _).trans (teq hc19).1) (by decide) (by decide) ?_
      refine XS.aloadN X16.here hx rfl (hb hby d5_65) rfl rfl ?_
      refine st20 _ ?_
      refine XS.iload X20.here hx rfl (hb hby d5_69) rfl ?_
      refine X20.baloadBooleans hx (j := t1_) (v := (.int f1_)) (by rw [e20]; exact Ar21.1) (State.isArrayOf_alike hZ.alike Ar21.2.1) Ar21.2.2 hin22 hat23 (g := (mkF m 71 #[vR a1, vI p2, vI p3, vI p4, vR s4, vI 0, vI 2, vI 1, vI t1_, vI (own_ic k1_ p3), .unset] [iI t1_, iR bf])) rfl rfl (hb hby d5_71) _ ?_
      refine XS.iloadN X20.here hx rfl (hb hby d5_72) rfl ?_
      refine st24 _ ?_
      exact kt
    · refine ⟨T16, X16, e16, fun t kt => ?_⟩
      subst hv17
      simp only [if_neg hc19] at kt
      refine XS.ifNo X16.here hx rfl (hb hby d5_57) rfl ((if0 _ _).trans (feq hc19).1) ?_
      refine XS.iload X16.here hx rfl (hb hby d5_60) rfl ?_
      refine XS.goto X16.here hx rfl (pc0 := 62) (pc' := 76) rfl (hb hby d5_62) (by decide) (by decide) ?_
      exact kt
  have pre26 : ∀ t, Steps p.tables e below (T18.setTop (mkF m 80 #[vR a1, vI p2, vI p3, vI p4, vR s4, vI 0, vI 2, vI 1, vI t1_, vI (own_ic k1_ p3), vI v17] [iI v17])) t → Steps p.tables e below (s₁.setTop (entryFrame m #[(.ref a1), (.int p2), (.int p3), (.int p4)] 11)) t := by
    intro t kt
    refine pre0 t ?_
    refine XS.aloadN X0.here hx rfl (hb hby d5_0) rfl rfl ?_
    refine st1 _ ?_
    refine XS.iloadN X1.here hx rfl (hb hby d5_4) rfl ?_
    refine X1.aaload hx (j := p2) (v := (.ref s4)) (by rw [e1]; exact Ar2.1) (State.isArrayOf_alike hZ.alike Ar2.2.1) rfl Ar2.2.2 hin3 hat4 (g := (mkF m 5 #[vR a1, vI p2, vI p3, vI p4, .unset, .unset, .unset, .unset, .unset, .unset, .unset] [iI p2, iR bc])) rfl rfl (hb hby d5_5) _ ?_
    refine XS.astore X1.here hx rfl (hb hby d5_6) rfl rfl (l' := #[vR a1, vI p2, vI p3, vI p4, vR s4, .unset, .unset, .unset, .unset, .unset, .unset]) rfl ?_
    refine XS.iconst X1.here hx rfl (hb hby d5_8) ?_
    refine XS.istore X1.here hx rfl (hb hby d5_9) rfl (l' := #[vR a1, vI p2, vI p3, vI p4, vR s4, vI 0, .unset, .unset, .unset, .unset, .unset]) rfl ?_
    refine XS.aloadN X1.here hx rfl (hb hby d5_11) rfl rfl ?_
    refine st5 _ ?_
    refine XS.iloadN X5.here hx rfl (hb hby d5_15) rfl ?_
    refine X5.iaload hx (j := p2) (v := (.int (2 : Int32))) (by rw [e5]; exact Ar6.1) (State.isArrayOf_alike hZ.alike Ar6.2.1) Ar6.2.2 hin7 hat8 (g := (mkF m 16 #[vR a1, vI p2, vI p3, vI p4, vR s4, vI 0, .unset, .unset, .unset, .unset, .unset] [iI p2, iR bn])) rfl rfl (hb hby d5_16) _ ?_
    refine XS.istore X5.here hx rfl (hb hby d5_17) rfl (l' := #[vR a1, vI p2, vI p3, vI p4, vR s4, vI 0, vI 2, .unset, .unset, .unset, .unset]) rfl ?_
    refine XS.iload X5.here hx rfl (hb hby d5_19) rfl ?_
    refine XS.iload X5.here hx rfl (hb hby d5_21) rfl ?_
    refine XS.icmpNo X5.here hx rfl (hb hby d5_23) rfl (tlt (by decide : (0 : Int32) < (2 : Int32))).2.1 ?_
    refine XS.iload X5.here hx rfl (hb hby d5_26) rfl ?_
    refine XS.iload X5.here hx rfl (hb hby d5_28) rfl ?_
    refine XS.iadd X5.here hx rfl (hb hby d5_30) rfl ?_
    show SA T5 m 31 #[vR a1, vI p2, vI p3, vI p4, vR s4, vI 0, vI 2, .unset, .unset, .unset, .unset] [iI ((0 : Int32) + (2 : Int32))]
    rw [(by decide : ((0 : Int32) + (2 : Int32)) = (2 : Int32))]
    refine XS.iconst X5.here hx rfl (hb hby d5_31) ?_
    refine XS.iushr X5.here hx rfl (hb hby d5_32) rfl ?_
    show SA T5 m 33 #[vR a1, vI p2, vI p3, vI p4, vR s4, vI 0, vI 2, .unset, .unset, .unset, .unset] [iI (((2 : Int32).toUInt32 >>> ((1 : Int32) &&& 31).toUInt32).toInt32)]
    rw [(by decide : (((2 : Int32).toUInt32 >>> ((1 : Int32) &&& 31).toUInt32).toInt32) = (1 : Int32))]
    refine XS.istore X5.here hx rfl (hb hby d5_33) rfl (l' := #[vR a1, vI p2, vI p3, vI p4, vR s4, vI 0, vI 2, vI 1, .unset, .unset, .unset]) rfl ?_
    refine XS.aload X5.here hx rfl (hb hby d5_35) rfl rfl ?_
    refine XS.iload X5.here hx rfl (hb hby d5_37) rfl ?_
    refine X5.iaload hx (j := (1 : Int32)) (v := (.int t1_)) (by rw [e5]; exact Ar9.1) (State.isArrayOf_alike hZ.alike Ar9.2.1) Ar9.2.2 hin10 (Has.at H9 hin10 rfl) (g := (mkF m 39 #[vR a1, vI p2, vI p3, vI p4, vR s4, vI 0, vI 2, vI 1, .unset, .unset, .unset] [iI 1, iR s4])) rfl rfl (hb hby d5_39) _ ?_
    refine XS.istore X5.here hx rfl (hb hby d5_40) rfl (l' := #[vR a1, vI p2, vI p3, vI p4, vR s4, vI 0, vI 2, vI 1, vI t1_, .unset, .unset]) rfl ?_
    refine XS.aloadN X5.here hx rfl (hb hby d5_42) rfl rfl ?_
    refine st12 _ ?_
    refine XS.iload X12.here hx rfl (hb hby d5_46) rfl ?_
    refine X12.iaload hx (j := t1_) (v := (.int k1_)) (by rw [e12]; exact Ar13.1) (State.isArrayOf_alike hZ.alike Ar13.2.1) Ar13.2.2 hin14 hat15 (g := (mkF m 48 #[vR a1, vI p2, vI p3, vI p4, vR s4, vI 0, vI 2, vI 1, vI t1_, .unset, .unset] [iI t1_, iR bi])) rfl rfl (hb hby d5_48) _ ?_
    refine XS.iloadN X12.here hx rfl (hb hby d5_49) rfl ?_
    refine st16 _ ?_
    refine XS.istore X16.here hx rfl (hb hby d5_53) rfl (l' := #[vR a1, vI p2, vI p3, vI p4, vR s4, vI 0, vI 2, vI 1, vI t1_, vI (own_ic k1_ p3), .unset]) rfl ?_
    refine XS.iload X16.here hx rfl (hb hby d5_55) rfl ?_
    refine st18 _ ?_
    refine XS.istore X18.here hx rfl (hb hby d5_76) rfl (l' := #[vR a1, vI p2, vI p3, vI p4, vR s4, vI 0, vI 2, vI 1, vI t1_, vI (own_ic k1_ p3), vI v17]) rfl ?_
    refine XS.iload X18.here hx rfl (hb hby d5_78) rfl ?_
    exact kt
  by_cases hc25 : v17 < (0 : Int32)
  · obtain ⟨fs, hr, hrun, hended, hW, hsame⟩ := X18.leave (v := some (.int (2 : Int32))) (fun h => by rw [Bd.returns] at h; cases h)
    refine ⟨_, _, pre26 _ ?_, hrun, hended, _, _, rfl, ?_, ⟨_, rfl⟩, hW, hsame.mono (by decide) (by decide)⟩
    · refine XS.ifNo X18.here hx rfl (hb hby d5_80) rfl ((if0 _ _).trans (tlt hc25).2.1) ?_
      refine XS.iload X18.here hx rfl (hb hby d5_83) rfl ?_
      refine XS.iconst X18.here hx rfl (hb hby d5_85) ?_
      refine XS.iadd X18.here hx rfl (hb hby d5_86) rfl ?_
      show SA T18 m 87 #[vR a1, vI p2, vI p3, vI p4, vR s4, vI 0, vI 2, vI 1, vI t1_, vI (own_ic k1_ p3), vI v17] [iI ((1 : Int32) + (1 : Int32))]
      rw [(by decide : ((1 : Int32) + (1 : Int32)) = (2 : Int32))]
      refine XS.istore X18.here hx rfl (hb hby d5_87) rfl (l' := #[vR a1, vI p2, vI p3, vI p4, vR s4, vI 2, vI 2, vI 1, vI t1_, vI (own_ic k1_ p3), vI v17]) rfl ?_
      refine XS.goto X18.here hx rfl (pc0 := 89) (pc' := 96) rfl (hb hby d5_89) (by decide) (by decide) ?_
      refine XS.goto X18.here hx rfl (pc0 := 96) (pc' := 19) rfl (hb hby d5_96) (by decide) (by decide) ?_
      refine XS.iload X18.here hx rfl (hb hby d5_19) rfl ?_
      refine XS.iload X18.here hx rfl (hb hby d5_21) rfl ?_
      refine XS.icmpYes X18.here hx rfl (pc0 := 23) (pc' := 99) rfl (hb hby d5_23) rfl (flt (by decide : ¬ ((2 : Int32) < (2 : Int32)))).2.1 (by decide) (by decide) ?_
      refine XS.iload X18.here hx rfl (hb hby d5_99) rfl ?_
      show Steps _ _ _ (T18.setTop (mkF m 101 #[vR a1, vI p2, vI p3, vI p4, vR s4, vI 2, vI 2, vI 1, vI t1_, vI (own_ic k1_ p3), vI v17] [iI 2])) _
      exact retI X18 hx Bd.returns (hb hby d5_101) hr
    · show Q5_2 Z a1 p2 p3 p4 bi bf bp bc bn ki kf kp kc kn IL FL PL NL CV s4 k4 t0_ t1_ t2_ t3_ k0_ f0_ k1_ f1_ h0 _ T18.heap _
      rw [e18]
      exact ⟨by subst hv17; first | rfl | (simp only [own_s_2, if_pos hc25]; done) | (simp only [own_s_2, if_pos hc25]; rfl) | (simp only [own_s_2, if_pos hc25, nar] ; first | rfl | (simp; done) | decide), rfl, rfl⟩
  · have hin27 := inb_of (j := (0 : Int32)) S9 ⟨by decide, by decide⟩
    obtain ⟨T29, X29, e29, st29⟩ := gF X18 hx hZ hown (ww hw 13 rfl) e18 F_items (g := (mkF m 43 #[vR a1, vI p2, vI p3, vI p4, vR s4, vI 0, vI 1, vI 0, vI t0_, vI (own_ic k1_ p3), vI v17] [iR a1])) rfl rfl (hb hby d5_43)
    have hin30 := inb_of (j := t0_) S13 hb0
    have hat31 : cl13.slots[(t0_).toNatClampNeg]? = some (.int k0_) := Has.at H13 hin30 (by rw [own_bsget, hk0])
    obtain ⟨_, _, ⟨T32, L32, k32, n32⟩, -, X32, ⟨Lc32, hQ32, l32, y32, z32⟩, st32⟩ := Jvm.LawKit.callS X29 hx (y := mn_0) hown (mvT hZ (ww hw 44 rfl)) (mvT hZ (ww hw 45 rfl)) (mvT hZ (ww hw 46 rfl)) (mvT hZ (ww hw 47 rfl)) (by decide) (backOf (W := 0) (rm6 l Z a0 hw [] k0_ p3 h0 ) hZ (ww hw 47 rfl) (ww hw 46 rfl) (by decide) (by decide)) (g := (mkF m 50 #[vR a1, vI p2, vI p3, vI p4, vR s4, vI 0, vI 1, vI 0, vI t0_, vI (own_ic k1_ p3), vI v17] [iI p3, iI k0_])) rfl (by rw [hml]; rfl) (argsL := [(.int k0_), (.int p3)]) (rest := []) (lenOf pd_0 rfl) rfl (wz rfl) (hb hby d5_50) (fun _ _ => ⟨rfl, e29, (by decide : 0 + 0 ≤ _), (by decide : 0 + 0 ≤ _)⟩)
    dsimp only [Pt.U, Pt.locs, Pt.cells, Pt.slots] at X32 l32 y32 z32 st32 hQ32
    subst l32 y32 z32
    obtain ⟨rfl, rfl, e32⟩ := hQ32
    try rw [List.append_nil] at X32
    obtain ⟨v33, hv33⟩ : ∃ z : Int32, z = (if (own_ic k0_ p3) = (0 : Int32) then (own_bc f0_ p4) else (own_ic k0_ p3)) := ⟨_, rfl⟩
    obtain ⟨T34, X34, e34, st34⟩ : own_Mid X32 h0 (mkF m 57 #[vR a1, vI p2, vI p3, vI p4, vR s4, vI 0, vI 1, vI 0, vI t0_, vI (own_ic k0_ p3), vI v17] [iI (own_ic k0_ p3)]) (mkF m 76 #[vR a1, vI p2, vI p3, vI p4, vR s4, vI 0, vI 1, vI 0, vI t0_, vI (own_ic k0_ p3), vI v17] [iI v33]) := by
      by_cases hc35 : (own_ic k0_ p3) = (0 : Int32)
      · obtain ⟨T36, X36, e36, st36⟩ := gF X32 hx hZ hown (ww hw 16 rfl) e32 F_sameEvents (g := (mkF m 66 #[vR a1, vI p2, vI p3, vI p4, vR s4, vI 0, vI 1, vI 0, vI t0_, vI (own_ic k0_ p3), vI v17] [iR a1])) rfl rfl (hb hby d5_66)
        obtain ⟨cl37, Ar37, q37, S37, M37, H37, G37⟩ := id V_bf
        have hin38 := inb_of (j := t0_) S37 hb0
        have hat39 : cl37.slots[(t0_).toNatClampNeg]? = some (.int f0_) := Has.at H37 hin38 (by rw [own_bsget, hf0])
        obtain ⟨_, _, ⟨T40, L40, k40, n40⟩, -, X40, ⟨Lc40, hQ40, l40, y40, z40⟩, st40⟩ := Jvm.LawKit.callS X36 hx (y := mn_1) hown (mvT hZ (ww hw 58 rfl)) (mvT hZ (ww hw 59 rfl)) (mvT hZ (ww hw 60 rfl)) (mvT hZ (ww hw 61 rfl)) (by decide) (backOf (W := 0) (rm9 l Z a0 hw [] f0_ p4 h0 ) hZ (ww hw 61 rfl) (ww hw 60 rfl) (by decide) (by decide)) (g := (mkF m 73 #[vR a1, vI p2, vI p3, vI p4, vR s4, vI 0, vI 1, vI 0, vI t0_, vI (own_ic k0_ p3), vI v17] [iI p4, iI f0_])) rfl (by rw [hml]; rfl) (argsL := [(.int f0_), (.int p4)]) (rest := []) (lenOf pd_1 rfl) rfl (wz rfl) (hb hby d5_73) (fun _ _ => ⟨rfl, e36, (by decide : 0 + 0 ≤ _), (by decide : 0 + 0 ≤ _)⟩)
        dsimp only [Pt.U, Pt.locs, Pt.cells, Pt.slots] at X40 l40 y40 z40 st40 hQ40
        subst l40 y40 z40
        obtain ⟨rfl, rfl, e40⟩ := hQ40
        try rw [List.append_nil] at X40
        refine ⟨T40, X40, e40, fun t kt => ?_⟩
        subst hv33
        simp only [if_pos hc35] at kt
        refine XS.ifYes X32.here hx rfl (pc0 := 57) (pc' := 65) rfl (hb hby d5_57) rfl ((if0 _ _).trans (teq hc35).1) (by decide) (by decide) ?_
        refine XS.aloadN X32.here hx rfl (hb hby d5_65) rfl rfl ?_
        refine st36 _ ?_
        refine XS.iload X36.here hx rfl (hb hby d5_69) rfl ?_
        refine X36.baloadBooleans hx (j := t0_) (v := (.int f0_)) (by rw [e36]; exact Ar37.1) (State.isArrayOf_alike hZ.alike Ar37.2.1) Ar37.2.2 hin38 hat39 (g := (mkF m 71 #[vR a1, vI p2, vI p3, vI p4, vR s4, vI 0, vI 1, vI 0, vI t0_, vI (own_ic k0_ p3), vI v17] [iI t0_, iR bf])) rfl rfl (hb hby d5_71) _ ?_
        refine XS.iloadN X36.here hx rfl (hb hby d5_72) rfl ?_
        refine st40 _ ?_
        exact kt
      · refine ⟨T32, X32, e32, fun t kt => ?_⟩
        subst hv33
        simp only [if_neg hc35] at kt
        refine XS.ifNo X32.here hx rfl (hb hby d5_57) rfl ((if0 _ _).trans (feq hc35).1) ?_
        refine XS.iload X32.here hx rfl (hb hby d5_60) rfl ?_
        refine XS.goto X32.here hx rfl (pc0 := 62) (pc' := 76) rfl (hb hby d5_62) (by decide) (by decide) ?_
        exact kt
    have pre42 : ∀ t, Steps p.tables e below (T34.setTop (mkF m 80 #[vR a1, vI p2, vI p3, vI p4, vR s4, vI 0, vI 1, vI 0, vI t0_, vI (own_ic k0_ p3), vI v33] [iI v33])) t → Steps p.tables e below (s₁.setTop (entryFrame m #[(.ref a1), (.int p2), (.int p3), (.int p4)] 11)) t := by
      intro t kt
      refine pre26 t ?_
      refine XS.ifYes X18.here hx rfl (pc0 := 80) (pc' := 92) rfl (hb hby d5_80) rfl ((if0 _ _).trans (flt hc25).2.1) (by decide) (by decide) ?_
      refine XS.iload X18.here hx rfl (hb hby d5_92) rfl ?_
      refine XS.istore X18.here hx rfl (hb hby d5_94) rfl (l' := #[vR a1, vI p2, vI p3, vI p4, vR s4, vI 0, vI 1, vI 1, vI t1_, vI (own_ic k1_ p3), vI v17]) rfl ?_
      refine XS.goto X18.here hx rfl (pc0 := 96) (pc' := 19) rfl (hb hby d5_96) (by decide) (by decide) ?_
      refine XS.iload X18.here hx rfl (hb hby d5_19) rfl ?_
      refine XS.iload X18.here hx rfl (hb hby d5_21) rfl ?_
      show SA T18 m 23 #[vR a1, vI p2, vI p3, vI p4, vR s4, vI 0, vI 1, vI 1, vI t1_, vI (own_ic k1_ p3), vI v17] [iI 1, iI 0]
      refine XS.icmpNo X18.here hx rfl (hb hby d5_23) rfl (tlt (by decide : (0 : Int32) < (1 : Int32))).2.1 ?_
      refine XS.iload X18.here hx rfl (hb hby d5_26) rfl ?_
      refine XS.iload X18.here hx rfl (hb hby d5_28) rfl ?_
      refine XS.iadd X18.here hx rfl (hb hby d5_30) rfl ?_
      show SA T18 m 31 #[vR a1, vI p2, vI p3, vI p4, vR s4, vI 0, vI 1, vI 1, vI t1_, vI (own_ic k1_ p3), vI v17] [iI ((0 : Int32) + (1 : Int32))]
      rw [(by decide : ((0 : Int32) + (1 : Int32)) = (1 : Int32))]
      refine XS.iconst X18.here hx rfl (hb hby d5_31) ?_
      refine XS.iushr X18.here hx rfl (hb hby d5_32) rfl ?_
      show SA T18 m 33 #[vR a1, vI p2, vI p3, vI p4, vR s4, vI 0, vI 1, vI 1, vI t1_, vI (own_ic k1_ p3), vI v17] [iI (((1 : Int32).toUInt32 >>> ((1 : Int32) &&& 31).toUInt32).toInt32)]
      rw [(by decide : (((1 : Int32).toUInt32 >>> ((1 : Int32) &&& 31).toUInt32).toInt32) = (0 : Int32))]
      refine XS.istore X18.here hx rfl (hb hby d5_33) rfl (l' := #[vR a1, vI p2, vI p3, vI p4, vR s4, vI 0, vI 1, vI 0, vI t1_, vI (own_ic k1_ p3), vI v17]) rfl ?_
      refine XS.aload X18.here hx rfl (hb hby d5_35) rfl rfl ?_
      refine XS.iload X18.here hx rfl (hb hby d5_37) rfl ?_
      refine X18.iaload hx (j := (0 : Int32)) (v := (.int t0_)) (by rw [e18]; exact Ar9.1) (State.isArrayOf_alike hZ.alike Ar9.2.1) Ar9.2.2 hin27 (Has.at H9 hin27 rfl) (g := (mkF m 39 #[vR a1, vI p2, vI p3, vI p4, vR s4, vI 0, vI 1, vI 0, vI t1_, vI (own_ic k1_ p3), vI v17] [iI 0, iR s4])) rfl rfl (hb hby d5_39) _ ?_
      refine XS.istore X18.here hx rfl (hb hby d5_40) rfl (l' := #[vR a1, vI p2, vI p3, vI p4, vR s4, vI 0, vI 1, vI 0, vI t0_, vI (own_ic k1_ p3), vI v17]) rfl ?_
      refine XS.aloadN X18.here hx rfl (hb hby d5_42) rfl rfl ?_
      refine st29 _ ?_
      refine XS.iload X29.here hx rfl (hb hby d5_46) rfl ?_
      refine X29.iaload hx (j := t0_) (v := (.int k0_)) (by rw [e29]; exact Ar13.1) (State.isArrayOf_alike hZ.alike Ar13.2.1) Ar13.2.2 hin30 hat31 (g := (mkF m 48 #[vR a1, vI p2, vI p3, vI p4, vR s4, vI 0, vI 1, vI 0, vI t0_, vI (own_ic k1_ p3), vI v17] [iI t0_, iR bi])) rfl rfl (hb hby d5_48) _ ?_
      refine XS.iloadN X29.here hx rfl (hb hby d5_49) rfl ?_
      refine st32 _ ?_
      refine XS.istore X32.here hx rfl (hb hby d5_53) rfl (l' := #[vR a1, vI p2, vI p3, vI p4, vR s4, vI 0, vI 1, vI 0, vI t0_, vI (own_ic k0_ p3), vI v17]) rfl ?_
      refine XS.iload X32.here hx rfl (hb hby d5_55) rfl ?_
      refine st34 _ ?_
      refine XS.istore X34.here hx rfl (hb hby d5_76) rfl (l' := #[vR a1, vI p2, vI p3, vI p4, vR s4, vI 0, vI 1, vI 0, vI t0_, vI (own_ic k0_ p3), vI v33]) rfl ?_
      refine XS.iload X34.here hx rfl (hb hby d5_78) rfl ?_
      exact kt
    by_cases hc41 : v33 < (0 : Int32)
    · obtain ⟨fs, hr, hrun, hended, hW, hsame⟩ := X34.leave (v := some (.int (1 : Int32))) (fun h => by rw [Bd.returns] at h; cases h)
      refine ⟨_, _, pre42 _ ?_, hrun, hended, _, _, rfl, ?_, ⟨_, rfl⟩, hW, hsame.mono (by decide) (by decide)⟩
      · refine XS.ifNo X34.here hx rfl (hb hby d5_80) rfl ((if0 _ _).trans (tlt hc41).2.1) ?_
        refine XS.iload X34.here hx rfl (hb hby d5_83) rfl ?_
        refine XS.iconst X34.here hx rfl (hb hby d5_85) ?_
        refine XS.iadd X34.here hx rfl (hb hby d5_86) rfl ?_
        show SA T34 m 87 #[vR a1, vI p2, vI p3, vI p4, vR s4, vI 0, vI 1, vI 0, vI t0_, vI (own_ic k0_ p3), vI v33] [iI ((0 : Int32) + (1 : Int32))]
        rw [(by decide : ((0 : Int32) + (1 : Int32)) = (1 : Int32))]
        refine XS.istore X34.here hx rfl (hb hby d5_87) rfl (l' := #[vR a1, vI p2, vI p3, vI p4, vR s4, vI 1, vI 1, vI 0, vI t0_, vI (own_ic k0_ p3), vI v33]) rfl ?_
        refine XS.goto X34.here hx rfl (pc0 := 89) (pc' := 96) rfl (hb hby d5_89) (by decide) (by decide) ?_
        refine XS.goto X34.here hx rfl (pc0 := 96) (pc' := 19) rfl (hb hby d5_96) (by decide) (by decide) ?_
        refine XS.iload X34.here hx rfl (hb hby d5_19) rfl ?_
        refine XS.iload X34.here hx rfl (hb hby d5_21) rfl ?_
        refine XS.icmpYes X34.here hx rfl (pc0 := 23) (pc' := 99) rfl (hb hby d5_23) rfl (flt (by decide : ¬ ((1 : Int32) < (1 : Int32)))).2.1 (by decide) (by decide) ?_
        refine XS.iload X34.here hx rfl (hb hby d5_99) rfl ?_
        show Steps _ _ _ (T34.setTop (mkF m 101 #[vR a1, vI p2, vI p3, vI p4, vR s4, vI 1, vI 1, vI 0, vI t0_, vI (own_ic k0_ p3), vI v33] [iI 1])) _
        exact retI X34 hx Bd.returns (hb hby d5_101) hr
      · show Q5_2 Z a1 p2 p3 p4 bi bf bp bc bn ki kf kp kc kn IL FL PL NL CV s4 k4 t0_ t1_ t2_ t3_ k0_ f0_ k1_ f1_ h0 _ T34.heap _
        rw [e34]
        exact ⟨by subst hv33 hv17; first | rfl | (simp only [own_s_2, if_neg hc25, if_pos hc41]; done) | (simp only [own_s_2, if_neg hc25, if_pos hc41]; rfl) | (simp only [own_s_2, if_neg hc25, if_pos hc41, nar] ; first | rfl | (simp; done) | decide), rfl, rfl⟩
    · obtain ⟨fs, hr, hrun, hended, hW, hsame⟩ := X34.leave (v := some (.int (0 : Int32))) (fun h => by rw [Bd.returns] at h; cases h)
      refine ⟨_, _, pre42 _ ?_, hrun, hended, _, _, rfl, ?_, ⟨_, rfl⟩, hW, hsame.mono (by decide) (by decide)⟩
      · refine XS.ifYes X34.here hx rfl (pc0 := 80) (pc' := 92) rfl (hb hby d5_80) rfl ((if0 _ _).trans (flt hc41).2.1) (by decide) (by decide) ?_
        refine XS.iload X34.here hx rfl (hb hby d5_92) rfl ?_
        refine XS.istore X34.here hx rfl (hb hby d5_94) rfl (l' := #[vR a1, vI p2, vI p3, vI p4, vR s4, vI 0, vI 0, vI 0, vI t0_, vI (own_ic k0_ p3), vI v33]) rfl ?_
        refine XS.goto X34.here hx rfl (pc0 := 96) (pc' := 19) rfl (hb hby d5_96) (by decide) (by decide) ?_
        refine XS.iload X34.here hx rfl (hb hby d5_19) rfl ?_
        refine XS.iload X34.here hx rfl (hb hby d5_21) rfl ?_
        show SA T34 m 23 #[vR a1, vI p2, vI p3, vI p4, vR s4, vI 0, vI 0, vI 0, vI t0_, vI (own_ic k0_ p3), vI v33] [iI 0, iI 0]
        refine XS.icmpYes X34.here hx rfl (pc0 := 23) (pc' := 99) rfl (hb hby d5_23) rfl (flt (by decide : ¬ ((0 : Int32) < (0 : Int32)))).2.1 (by decide) (by decide) ?_
        refine XS.iload X34.here hx rfl (hb hby d5_99) rfl ?_
        show Steps _ _ _ (T34.setTop (mkF m 101 #[vR a1, vI p2, vI p3, vI p4, vR s4, vI 0, vI 0, vI 0, vI t0_, vI (own_ic k0_ p3), vI v33] [iI 0])) _
        exact retI X34 hx Bd.returns (hb hby d5_101) hr
      · show Q5_2 Z a1 p2 p3 p4 bi bf bp bc bn ki kf kp kc kn IL FL PL NL CV s4 k4 t0_ t1_ t2_ t3_ k0_ f0_ k1_ f1_ h0 _ T34.heap _
        rw [e34]
        exact ⟨by subst hv33 hv17; first | rfl | (simp only [own_s_2, if_neg hc25, if_neg hc41]; done) | (simp only [own_s_2, if_neg hc25, if_neg hc41]; rfl) | (simp only [own_s_2, if_neg hc25, if_neg hc41, nar] ; first | rfl | (simp; done) | decide), rfl, rfl⟩
def Q5_2v (Z : State) (a1 : Addr) (p2 : Int32) (p3 : Int32) (p4 : Int32) (bi bf bp bc bn : Addr) (ki kf kp kc kn : ClassId) (IL FL PL NL : List Int32) (CV : List Value) (s4 : Addr) (k4 : ClassId) (t0_ t1_ t2_ t3_ : Int32) (k0_ f0_ k1_ f1_ : Int32) (at_ : Int32) (h0 : Heap) (v : Option Value) (h : Heap) (L : List Loc) : Prop := v = some (.int at_) ∧ L = [] ∧ h = h0
theorem rm5_2v (l : Launch) (Z : State) (a0 : Array Value) (hw : ∀ d ∈ tables_1, d.before a0 Z = true) (ws : List Jvm.Cond) (a1 : Addr) (p2 : Int32) (p3 : Int32) (p4 : Int32) (bi bf bp bc bn : Addr) (ki kf kp kc kn : ClassId) (IL FL PL NL : List Int32) (CV : List Value) (s4 : Addr) (k4 : ClassId) (t0_ t1_ t2_ t3_ : Int32) (k0_ f0_ k1_ f1_ : Int32) (at_ : Int32) (h0 : Heap) (E_a1 : Exa Z h0 a1 "com/example/tidemine/tidemine/PatternTrie") (F_children : Fld Z h0 a1 "com/example/tidemine/tidemine/PatternTrie" "children" "[[I" (.ref bc)) (V_bc : Arv Z h0 bc kc (.array .int) (16 : Int32) CV .null) (F_childCounts : Fld Z h0 a1 "com/example/tidemine/tidemine/PatternTrie" "childCounts" "[I" (.ref bn)) (V_bn : Arv Z h0 bn kn .int (16 : Int32) (own_bs NL) (.int (0 : Int32))) (F_items : Fld Z h0 a1 "com/example/tidemine/tidemine/PatternTrie" "items" "[I" (.ref bi)) (V_bi : Arv Z h0 bi ki .int (16 : Int32) (own_bs IL) (.int (0 : Int32))) (F_sameEvents : Fld Z h0 a1 "com/example/tidemine/tidemine/PatternTrie" "sameEvents" "[Z" (.ref bf)) (V_bf : Arv Z h0 bf kf .boolean (16 : Int32) (own_bs FL) (.int (0 : Int32))) (hp : ¬ p2 < (0 : Int32) ∧ p2 < (16 : Int32)) (hcv : CV.getD p2.toNatClampNeg .null = .ref s4) (hnc : NL.getD p2.toNatClampNeg 0 = (2 : Int32)) (V_s4 : Arv Z h0 s4 k4 .int (4 : Int32) [(.int t0_), (.int t1_), (.int t2_), (.int t3_)] (.int (0 : Int32))) (hb0 : ¬ t0_ < (0 : Int32) ∧ t0_ < (16 : Int32)) (hk0 : IL.getD t0_.toNatClampNeg 0 = k0_) (hf0 : FL.getD t0_.toNatClampNeg 0 = f0_) (hb1 : ¬ t1_ < (0 : Int32) ∧ t1_ < (16 : Int32)) (hk1 : IL.getD t1_.toNatClampNeg 0 = k1_) (hf1 : FL.getD t1_.toNatClampNeg 0 = f1_) (hat : own_s_2 k0_ f0_ k1_ f1_ p3 p4 = at_) :
    MetFree l mn_2 (head1 (Jvm.Cond.code mn_2 prog_23_method_19_code 11 (some .int) :: ws) ({ frames := 1, cells := 0, slots := 0, locals := 13 } : Room)) (fun a U => a = #[(.ref a1), (.int p2), (.int p3), (.int p4)] ∧ Z.Warmed39 U.vm ∧ U.heap = h0) (fun _ _ _ _ _ => True) (fun _ U o U' => ∃ v L, o = .returned v ∧ Q5_2v Z a1 p2 p3 p4 bi bf bp bc bn ki kf kp kc kn IL FL PL NL CV s4 k4 t0_ t1_ t2_ t3_ k0_ f0_ k1_ f1_ at_ h0 v U'.heap L ∧ FrameEnd U o U' L ({ frames := 1, cells := 0, slots := 0, locals := 13 } : Room).cells ({ frames := 1, cells := 0, slots := 0, locals := 13 } : Room).slots) := by
  subst hat
  exact rm5_2 l Z a0 hw ws a1 p2 p3 p4 bi bf bp bc bn ki kf kp kc kn IL FL PL NL CV s4 k4 t0_ t1_ t2_ t3_ k0_ f0_ k1_ f1_ h0 E_a1 F_children V_bc F_childCounts V_bn F_items V_bi F_sameEvents V_bf hp hcv hnc V_s4 hb0 hk0 hf0 hb1 hk1 hf1
def own_s_3 (k0_ : Int32) (f0_ : Int32) (k1_ : Int32) (f1_ : Int32) (k2_ : Int32) (f2_ : Int32) (p3 : Int32) (p4 : Int32) : Int32 := (if (if (own_ic k1_ p3) = (0 : Int32) then (own_bc f1_ p4) else (own_ic k1_ p3)) < (0 : Int32) then (if (if (own_ic k2_ p3) = (0 : Int32) then (own_bc f2_ p4) else (own_ic k2_ p3)) < (0 : Int32) then (3 : Int32) else (2 : Int32)) else (if (if (own_ic k0_ p3) = (0 : Int32) then (own_bc f0_ p4) else (own_ic k0_ p3)) < (0 : Int32) then (1 : Int32) else (0 : Int32)))
theorem ef_5_3 (m : MethodId) (x0 : Addr) (x1 : Int32) (x2 : Int32) (x3 : Int32) : entryFrame m #[(.ref x0), (.int x1), (.int x2), (.int x3)] 11 = mkF m 0 #[.val (.ref x0), .val (.int x1), .val (.int x2), .val (.int x3), .unset, .unset, .unset, .unset, .unset, .unset, .unset] [] := by first | (simp [entryFrame, mkF, argsToLocals, Value.category]; done) | rfl
def Q5_3 (Z : State) (a1 : Addr) (p2 : Int32) (p3 : Int32) (p4 : Int32) (bi bf bp bc bn : Addr) (ki kf kp kc kn : ClassId) (IL FL PL NL : List Int32) (CV : List Value) (s4 : Addr) (k4 : ClassId) (t0_ t1_ t2_ t3_ : Int32) (k0_ f0_ k1_ f1_ k2_ f2_ : Int32) (h0 : Heap) (v : Option Value) (h : Heap) (L : List Loc) : Prop := v = some (.int (own_s_3 k0_ f0_ k1_ f1_ k2_ f2_ p3 p4)) ∧ L = [] ∧ h = h0
theorem rm5_3 (l : Launch) (Z : State) (a0 : Array Value) (hw : ∀ d ∈ tables_1, d.before a0 Z = true) (ws : List Jvm.Cond) (a1 : Addr) (p2 : Int32) (p3 : Int32) (p4 : Int32) (bi bf bp bc bn : Addr) (ki kf kp kc kn : ClassId) (IL FL PL NL : List Int32) (CV : List Value) (s4 : Addr) (k4 : ClassId) (t0_ t1_ t2_ t3_ : Int32) (k0_ f0_ k1_ f1_ k2_ f2_ : Int32) (h0 : Heap) (E_a1 : Exa Z h0 a1 "com/example/tidemine/tidemine/PatternTrie") (F_children : Fld Z h0 a1 "com/example/tidemine/tidemine/PatternTrie" "children" "[[I" (.ref bc)) (V_bc : Arv Z h0 bc kc (.array .int) (16 : Int32) CV .null) (F_childCounts : Fld Z h0 a1 "com/example/tidemine/tidemine/PatternTrie" "childCounts" "[I" (.ref bn)) (V_bn : Arv Z h0 bn kn .int (16 : Int32) (own_bs NL) (.int (0 : Int32))) (F_items : Fld Z h0 a1 "com/example/tidemine/tidemine/PatternTrie" "items" "[I" (.ref bi)) (V_bi : Arv Z h0 bi ki .int (16 : Int32) (own_bs IL) (.int (0 : Int32))) (F_sameEvents : Fld Z h0 a1 "com/example/tidemine/tidemine/PatternTrie" "sameEvents" "[Z" (.ref bf)) (V_bf : Arv Z h0 bf kf .boolean (16 : Int32) (own_bs FL) (.int (0 : Int32))) (hp : ¬ p2 < (0 : Int32) ∧ p2 < (16 : Int32)) (hcv : CV.getD p2.toNatClampNeg .null = .ref s4) (hnc : NL.getD p2.toNatClampNeg 0 = (3 : Int32)) (V_s4 : Arv Z h0 s4 k4 .int (4 : Int32) [(.int t0_), (.int t1_), (.int t2_), (.int t3_)] (.int (0 : Int32))) (hb0 : ¬ t0_ < (0 : Int32) ∧ t0_ < (16 : Int32)) (hk0 : IL.getD t0_.toNatClampNeg 0 = k0_) (hf0 : FL.getD t0_.toNatClampNeg 0 = f0_) (hb1 : ¬ t1_ < (0 : Int32) ∧ t1_ < (16 : Int32)) (hk1 : IL.getD t1_.toNatClampNeg 0 = k1_) (hf1 : FL.getD t1_.toNatClampNeg 0 = f1_) (hb2 : ¬ t2_ < (0 : Int32) ∧ t2_ < (16 : Int32)) (hk2 : IL.getD t2_.toNatClampNeg 0 = k2_) (hf2 : FL.getD t2_.toNatClampNeg 0 = f2_) :
    MetFree l mn_2 (head1 (Jvm.Cond.code mn_2 prog_23_method_19_code 11 (some .int) :: ws) ({ frames := 1, cells := 0, slots := 0, locals := 13 } : Room)) (fun a U => a = #[(.ref a1), (.int p2), (.int p3), (.int p4)] ∧ Z.Warmed39 U.vm ∧ U.heap = h0) (fun _ _ _ _ _ => True) (fun _ U o U' => ∃ v L, o = .returned v ∧ Q5_3 Z a1 p2 p3 p4 bi bf bp bc bn ki kf kp kc kn IL FL PL NL CV s4 k4 t0_ t1_ t2_ t3_ k0_ f0_ k1_ f1_ k2_ f2_ h0 v U'.heap L ∧ FrameEnd U o U' L ({ frames := 1, cells := 0, slots := 0, locals := 13 } : Room).cells ({ frames := 1, cells := 0, slots := 0, locals := 13 } : Room).slots) := by
  refine MetFree.of_bodySF (plainFor_of_name pn_2) hisR ?_
  intro p e s m args below meth c s₁ Bd hml0 hP hK
  obtain ⟨rfl, hZ, hh⟩ := hP
  have hx := Bd.exec
  have hby := Bd.bytes
  have hml : c.maxLocals = 11 := hml0
  have hown : s.vm.findClass "com/example/tidemine/tidemine/PatternTrie" = some m.cls := findClass_of_methodNamed Bd.named
  have hnm := (name_of_methodNamed Bd.named Bd.method).1
  have X0 : Stand p l e ({ frames := 1, cells := 0, slots := 0, locals := 13 } : Room) s m #[(.ref a1), (.int p2), (.int p3), (.int p4)] below meth c s₁ [] 0 0 := Stand.of_body Bd
  have e0 : s₁.heap = h0 := by rw [← hh, Bd.state]; rfl
  have pre0 : ∀ t, Steps p.tables e below (s₁.setTop (mkF m 0 #[.val (.ref a1), .val (.int p2), .val (.int p3), .val (.int p4), .unset, .unset, .unset, .unset, .unset, .unset, .unset] [])) t → Steps p.tables e below (s₁.setTop (entryFrame m #[(.ref a1), (.int p2), (.int p3), (.int p4)] 11)) t := fun t k => castTop (ef_5_3 m a1 p2 p3 p4) k
  obtain ⟨T1, X1, e1, st1⟩ := gF X0 hx hZ hown (ww hw 22 rfl) e0 F_children (g := (mkF m 1 #[vR a1, vI p2, vI p3, vI p4, .unset, .unset, .unset, .unset, .unset, .unset, .unset] [iR a1])) rfl rfl (hb hby d5_1)
  obtain ⟨cl2, Ar2, q2, S2, M2, H2, G2⟩ := id V_bc
  have hin3 := inb_of (j := p2) S2 hp
  have hat4 : cl2.slots[(p2).toNatClampNeg]? = some (.ref s4) := Has.at H2 hin3 hcv
  obtain ⟨T5, X5, e5, st5⟩ := gF X1 hx hZ hown (ww hw 24 rfl) e1 F_childCounts (g := (mkF m 12 #[vR a1, vI p2, vI p3, vI p4, vR s4, vI 0, .unset, .unset, .unset, .unset, .unset] [iR a1])) rfl rfl (hb hby d5_12)
  obtain ⟨cl6, Ar6, q6, S6, M6, H6, G6⟩ := id V_bn
  have hin7 := inb_of (j := p2) S6 hp
  have hat8 : cl6.slots[(p2).toNatClampNeg]? = some (.int (3 : Int32)) := Has.at H6 hin7 (by rw [own_bsget, hnc])
  obtain ⟨cl9, Ar9, q9, S9, M9, H9, G9⟩ := id V_s4
  have hin10 := inb_of (j := (1 : Int32)) S9 ⟨by decide, by decide⟩
  obtain ⟨T12, X12, e12, st12⟩ := gF X5 hx hZ hown (ww hw 13 rfl) e5 F_items (g := (mkF m 43 #[vR a1, vI p2, vI p3, vI p4, vR s4, vI 0, vI 3, vI 1, vI t1_, .unset, .unset] [iR a1])) rfl rfl (hb hby d5_43)
  obtain ⟨cl13, Ar13, q13, S13, M13, H13, G13⟩ := id V_bi
  have hin14 := inb_of (j := t1_) S13 hb1
  have hat15 : cl13.slots[(t1_).toNatClampNeg]? = some (.int k1_) := Has.at H13 hin14 (by rw [own_bsget, hk1])
  obtain ⟨_, _, ⟨T16, L16, k16, n16⟩, -, X16, ⟨Lc16, hQ16, l16, y16, z16⟩, st16⟩ := Jvm.LawKit.callS X12 hx (y := mn_0) hown (mvT hZ (ww hw 44 rfl)) (mvT hZ (ww hw 45 rfl)) (mvT hZ (ww hw 46 rfl)) (mvT hZ (ww hw 47 rfl)) (by decide) (backOf (W := 0) (rm6 l Z a0 hw [] k1_ p3 h0 ) hZ (ww hw 47 rfl) (ww hw 46 rfl) (by decide) (by decide)) (g := (mkF m 50 #[vR a1, vI p2, vI p3, vI p4, vR s4, vI 0, vI 3, vI 1, vI t1_, .unset, .unset] [iI p3, iI k1_])) rfl (by rw [hml]; rfl) (argsL := [(.int k1_), (.int p3)]) (rest := []) (lenOf pd_0 rfl) rfl (wz rfl) (hb hby d5_50) (fun _ _ => ⟨rfl, e12, (by decide : 0 + 0 ≤ _), (by decide : 0 + 0 ≤ _)⟩)
  dsimp only [Pt.U, Pt.locs, Pt.cells, Pt.slots] at X16 l16 y16 z16 st16 hQ16
  subst l16 y16 z16
  obtain ⟨rfl, rfl, e16⟩ := hQ16
  try rw [List.append_nil] at X16
  obtain ⟨v17, hv17⟩ : ∃ z : Int32, z = (if (own_ic k1_ p3) = (0 : Int32) then (own_bc f1_ p4) else (own_ic k1_ p3)) := ⟨_, rfl⟩
  obtain ⟨T18, X18, e18, st18⟩ : own_Mid X16 h0 (mkF m 57 #[vR a1, vI p2, vI p3, vI p4, vR s4, vI 0, vI 3, vI 1, vI t1_, vI (own_ic k1_ p3), .unset] [iI (own_ic k1_ p3)]) (mkF m 76 #[vR a1, vI p2, vI p3, vI p4, vR s4, vI 0, vI 3, vI 1, vI t1_, vI (own_ic k1_ p3), .unset] [iI v17]) := by
    by_cases hc19 : (own_ic k1_ p3) = (0 : Int32)
    · obtain ⟨T20, X20, e20, st20⟩ := gF X16 hx hZ hown (ww hw 16 rfl) e16 F_sameEvents (g := (mkF m 66 #[vR a1, vI p2, vI p3, vI p4, vR s4, vI 0, vI 3, vI 1, vI t1_, vI (own_ic k1_ p3), .unset] [iR a1])) rfl rfl (hb hby d5_66)
      obtain ⟨cl21, Ar21, q21, S21, M21, H21, G21⟩ := id V_bf
      have hin22 := inb_of (j := t1_) S21 hb1
      have hat23 : cl21.slots[(t1_).toNatClampNeg]? = some (.int f1_) := Has.at H21 hin22 (by rw [own_bsget, hf1])
      obtain ⟨_, _, ⟨T24, L24, k24, n24⟩, -, X24, ⟨Lc24, hQ24, l24, y24, z24⟩, st24⟩ := Jvm.LawKit.callS X20 hx (y := mn_1) hown (mvT hZ (ww hw 58 rfl)) (mvT hZ (ww hw 59 rfl)) (mvT hZ (ww hw 60 rfl)) (mvT hZ (ww hw 61 rfl)) (by decide) (backOf (W := 0) (rm9 l Z a0 hw [] f1_ p4 h0 ) hZ (ww hw 61 rfl) (ww hw 60 rfl) (by decide) (by decide)) (g := (mkF m 73 #[vR a1, vI p2, vI p3, vI p4, vR s4, vI 0, vI 3, vI 1, vI t1_, vI (own_ic k1_ p3), .unset] [iI p4, iI f1_])) rfl (by rw [hml]; rfl) (argsL := [(.int f1_), (.int p4)]) (rest := []) (lenOf pd_1 rfl) rfl (wz rfl) (hb hby d5_73) (fun _ _ => ⟨rfl, e20, (by decide : 0 + 0 ≤ _), (by decide : 0 + 0 ≤ _)⟩)
      dsimp only [Pt.U, Pt.locs, Pt.cells, Pt.slots] at X24 l24 y24 z24 st24 hQ24
      subst l24 y24 z24
      obtain ⟨rfl, rfl, e24⟩ := hQ24
      try rw [List.append_nil] at X24
      refine ⟨T24, X24, e24, fun t kt => ?_⟩
      subst hv17
      simp only [if_pos hc19] at kt
      refine XS.ifYes X16.here hx rfl (pc0 := 57) (pc' := 65) rfl (hb hby d5_57) rfl ((if0 _ _).trans (teq hc19).1) (by decide) (by decide) ?_
      refine XS.aloadN X16.here hx rfl (hb hby d5_65) rfl rfl ?_
      refine st20 _ ?_
      refine XS.iload X20.here hx rfl (hb hby d5_69) rfl ?_
      refine X20.baloadBooleans hx (j := t1_) (v := (.int f1_)) (by rw [e20]; exact Ar21.1) (State.isArrayOf_alike hZ.alike Ar21.2.1) Ar21.2.2 hin22 hat23 (g := (mkF m 71 #[vR a1, vI p2, vI p3, vI p4, vR s4, vI 0, vI 3, vI 1, vI t1_, vI (own_ic k1_ p3), .unset] [iI t1_, iR bf])) rfl rfl (hb hby d5_71) _ ?_
      refine XS.iloadN X20.here hx rfl (hb hby d5_72) rfl ?_
      refine st24 _ ?_
      exact kt
    · refine ⟨T16, X16, e16, fun t kt => ?_⟩
      subst hv17
      simp only [if_neg hc19] at kt
      refine XS.ifNo X16.here hx rfl (hb hby d5_57) rfl ((if0 _ _).trans (feq hc19).1) ?_
      refine XS.iload X16.here hx rfl (hb hby d5_60) rfl ?_
      refine XS.goto X16.here hx rfl (pc0 := 62) (pc' := 76) rfl (hb hby d5_62) (by decide) (by decide) ?_
      exact kt
  have pre26 : ∀ t, Steps p.tables e below (T18.setTop (mkF m 80 #[vR a1, vI p2, vI p3, vI p4, vR s4, vI 0, vI 3, vI 1, vI t1_, vI (own_ic k1_ p3), vI v17] [iI v17])) t → Steps p.tables e below (s₁.setTop (entryFrame m #[(.ref a1), (.int p2), (.int p3), (.int p4)] 11)) t := by
    intro t kt
    refine pre0 t ?_
    refine XS.aloadN X0.here hx rfl (hb hby d5_0) rfl rfl ?_
    refine st1 _ ?_
    refine XS.iloadN X1.here hx rfl (hb hby d5_4) rfl ?_
    refine X1.aaload hx (j := p2) (v := (.ref s4)) (by rw [e1]; exact Ar2.1) (State.isArrayOf_alike hZ.alike Ar2.2.1) rfl Ar2.2.2 hin3 hat4 (g := (mkF m 5 #[vR a1, vI p2, vI p3, vI p4, .unset, .unset, .unset, .unset, .unset, .unset, .unset] [iI p2, iR bc])) rfl rfl (hb hby d5_5) _ ?_
    refine XS.astore X1.here hx rfl (hb hby d5_6) rfl rfl (l' := #[vR a1, vI p2, vI p3, vI p4, vR s4, .unset, .unset, .unset, .unset, .unset, .unset]) rfl ?_
    refine XS.iconst X1.here hx rfl (hb hby d5_8) ?_
    refine XS.istore X1.here hx rfl (hb hby d5_9) rfl (l' := #[vR a1, vI p2, vI p3, vI p4, vR s4, vI 0, .unset, .unset, .unset, .unset, .unset]) rfl ?_
    refine XS.aloadN X1.here hx rfl (hb hby d5_11) rfl rfl ?_
    refine st5 _ ?_
    refine XS.iloadN X5.here hx rfl (hb hby d5_15) rfl ?_
    refine X5.iaload hx (j := p2) (v := (.int (3 : Int32))) (by rw [e5]; exact Ar6.1) (State.isArrayOf_alike hZ.alike Ar6.2.1) Ar6.2.2 hin7 hat8 (g := (mkF m 16 #[vR a1, vI p2, vI p3, vI p4, vR s4, vI 0, .unset, .unset, .unset, .unset, .unset] [iI p2, iR bn])) rfl rfl (hb hby d5_16) _ ?_
    refine XS.istore X5.here hx rfl (hb hby d5_17) rfl (l' := #[vR a1, vI p2, vI p3, vI p4, vR s4, vI 0, vI 3, .unset, .unset, .unset, .unset]) rfl ?_
    refine XS.iload X5.here hx rfl (hb hby d5_19) rfl ?_
    refine XS.iload X5.here hx rfl (hb hby d5_21) rfl ?_
    refine XS.icmpNo X5.here hx rfl (hb hby d5_23) rfl (tlt (by decide : (0 : Int32) < (3 : Int32))).2.1 ?_
    refine XS.iload X5.here hx rfl (hb hby d5_26) rfl ?_
    refine XS.iload X5.here hx rfl (hb hby d5_28) rfl ?_
    refine XS.iadd X5.here hx rfl (hb hby d5_30) rfl ?_
    show SA T5 m 31 #[vR a1, vI p2, vI p3, vI p4, vR s4, vI 0, vI 3, .unset, .unset, .unset, .unset] [iI ((0 : Int32) + (3 : Int32))]
    rw [(by decide : ((0 : Int32) + (3 : Int32)) = (3 : Int32))]
    refine XS.iconst X5.here hx rfl (hb hby d5_31) ?_
    refine XS.iushr X5.here hx rfl (hb hby d5_32) rfl ?_
    show SA T5 m 33 #[vR a1, vI p2, vI p3, vI p4, vR s4, vI 0, vI 3, .unset, .unset, .unset, .unset] [iI (((3 : Int32).toUInt32 >>> ((1 : Int32) &&& 31).toUInt32).toInt32)]
    rw [(by decide : (((3 : Int32).toUInt32 >>> ((1 : Int32) &&& 31).toUInt32).toInt32) = (1 : Int32))]
    refine XS.istore X5.here hx rfl (hb hby d5_33) rfl (l' := #[vR a1, vI p2, vI p3, vI p4, vR s4, vI 0, vI 3, vI 1, .unset, .unset, .unset]) rfl ?_
    refine XS.aload X5.here hx rfl (hb hby d5_35) rfl rfl ?_
    refine XS.iload X5.here hx rfl (hb hby d5_37) rfl ?_
    refine X5.iaload hx (j := (1 : Int32)) (v := (.int t1_)) (by rw [e5]; exact Ar9.1) (State.isArrayOf_alike hZ.alike Ar9.2.1) Ar9.2.2 hin10 (Has.at H9 hin10 rfl) (g := (mkF m 39 #[vR a1, vI p2, vI p3, vI p4, vR s4, vI 0, vI 3, vI 1, .unset, .unset, .unset] [iI 1, iR s4])) rfl rfl (hb hby d5_39) _ ?_
    refine XS.istore X5.here hx rfl (hb hby d5_40) rfl (l' := #[vR a1, vI p2, vI p3, vI p4, vR s4, vI 0, vI 3, vI 1, vI t1_, .unset, .unset]) rfl ?_
    refine XS.aloadN X5.here hx rfl (hb hby d5_42) rfl rfl ?_
    refine st12 _ ?_
    refine XS.iload X12.here hx rfl (hb hby d5_46) rfl ?_
    refine X12.iaload hx (j := t1_) (v := (.int k1_)) (by rw [e12]; exact Ar13.1) (State.isArrayOf_alike hZ.alike Ar13.2.1) Ar13.2.2 hin14 hat15 (g := (mkF m 48 #[vR a1, vI p2, vI p3, vI p4, vR s4, vI 0, vI 3, vI 1, vI t1_, .unset, .unset] [iI t1_, iR bi])) rfl rfl (hb hby d5_48) _ ?_
    refine XS.iloadN X12.here hx rfl (hb hby d5_49) rfl ?_
    refine st16 _ ?_
    refine XS.istore X16.here hx rfl (hb hby d5_53) rfl (l' := #[vR a1, vI p2, vI p3, vI p4, vR s4, vI 0, vI 3, vI 1, vI t1_, vI (own_ic k1_ p3), .unset]) rfl ?_
    refine XS.iload X16.here hx rfl (hb hby d5_55) rfl ?_
    refine st18 _ ?_
    refine XS.istore X18.here hx rfl (hb hby d5_76) rfl (l' := #[vR a1, vI p2, vI p3, vI p4, vR s4, vI 0, vI 3, vI 1, vI t1_, vI (own_ic k1_ p3), vI v17]) rfl ?_
    refine XS.iload X18.here hx rfl (hb hby d5_78) rfl ?_
    exact kt
  by_cases hc25 : v17 < (0 : Int32)
  · have hin27 := inb_of (j := (2 : Int32)) S9 ⟨by decide, by decide⟩
    obtain ⟨T29, X29, e29, st29⟩ := gF X18 hx hZ hown (ww hw 13 rfl) e18 F_items (g := (mkF m 43 #[vR a1, vI p2, vI p3, vI p4, vR s4, vI 2, vI 3, vI 2, vI t2_, vI (own_ic k1_ p3), vI v17] [iR a1])) rfl rfl (hb hby d5_43)
    have hin30 := inb_of (j := t2_) S13 hb2
    have hat31 : cl13.slots[(t2_).toNatClampNeg]? = some (.int k2_) := Has.at H13 hin30 (by rw [own_bsget, hk2])
    obtain ⟨_, _, ⟨T32, L32, k32, n32⟩, -, X32, ⟨Lc32, hQ32, l32, y32, z32⟩, st32⟩ := Jvm.LawKit.callS X29 hx (y := mn_0) hown (mvT hZ (ww hw 44 rfl)) (mvT hZ (ww hw 45 rfl)) (mvT hZ (ww hw 46 rfl)) (mvT hZ (ww hw 47 rfl)) (by decide) (backOf (W := 0) (rm6 l Z a0 hw [] k2_ p3 h0 ) hZ (ww hw 47 rfl) (ww hw 46 rfl) (by decide) (by decide)) (g := (mkF m 50 #[vR a1, vI p2, vI p3, vI p4, vR s4, vI 2, vI 3, vI 2, vI t2_, vI (own_ic k1_ p3), vI v17] [iI p3, iI k2_])) rfl (by rw [hml]; rfl) (argsL := [(.int k2_), (.int p3)]) (rest := []) (lenOf pd_0 rfl) rfl (wz rfl) (hb hby d5_50) (fun _ _ => ⟨rfl, e29, (by decide : 0 + 0 ≤ _), (by decide : 0 + 0 ≤ _)⟩)
    dsimp only [Pt.U, Pt.locs, Pt.cells, Pt.slots] at X32 l32 y32 z32 st32 hQ32
    subst l32 y32 z32
    obtain ⟨rfl, rfl, e32⟩ := hQ32
    try rw [List.append_nil] at X32
    obtain ⟨v33, hv33⟩ : ∃ z : Int32, z = (if (own_ic k2_ p3) = (0 : Int32) then (own_bc f2_ p4) else (own_ic k2_ p3)) := ⟨_, rfl⟩
    obtain ⟨T34, X34, e34, st34⟩ : own_Mid X32 h0 (mkF m 57 #[vR a1, vI p2, vI p3, vI p4, vR s4, vI 2, vI 3, vI 2, vI t2_, vI (own_ic k2_ p3), vI v17] [iI (own_ic k2_ p3)]) (mkF m 76 #[vR a1, vI p2, vI p3, vI p4, vR s4, vI 2, vI 3, vI 2, vI t2_, vI (own_ic k2_ p3), vI v17] [iI v33]) := by
      by_cases hc35 : (own_ic k2_ p3) = (0 : Int32)
      · obtain ⟨T36, X36, e36, st36⟩ := gF X32 hx hZ hown (ww hw 16 rfl) e32 F_sameEvents (g := (mkF m 66 #[vR a1, vI p2, vI p3, vI p4, vR s4, vI 2, vI 3, vI 2, vI t2_, vI (own_ic k2_ p3), vI v17] [iR a1])) rfl rfl (hb hby d5_66)
        obtain ⟨cl37, Ar37, q37, S37, M37, H37, G37⟩ := id V_bf
        have hin38 := inb_of (j := t2_) S37 hb2
        have hat39 : cl37.slots[(t2_).toNatClampNeg]? = some (.int f2_) := Has.at H37 hin38 (by rw [own_bsget, hf2])
        obtain ⟨_, _, ⟨T40, L40, k40, n40⟩, -, X40, ⟨Lc40, hQ40, l40, y40, z40⟩, st40⟩ := Jvm.LawKit.callS X36 hx (y := mn_1) hown (mvT hZ (ww hw 58 rfl)) (mvT hZ (ww hw 59 rfl)) (mvT hZ (ww hw 60 rfl)) (mvT hZ (ww hw 61 rfl)) (by decide) (backOf (W := 0) (rm9 l Z a0 hw [] f2_ p4 h0 ) hZ (ww hw 61 rfl) (ww hw 60 rfl) (by decide) (by decide)) (g := (mkF m 73 #[vR a1, vI p2, vI p3, vI p4, vR s4, vI 2, vI 3, vI 2, vI t2_, vI (own_ic k2_ p3), vI v17] [iI p4, iI f2_])) rfl (by rw [hml]; rfl) (argsL := [(.int f2_), (.int p4)]) (rest := []) (lenOf pd_1 rfl) rfl (wz rfl) (hb hby d5_73) (fun _ _ => ⟨rfl, e36, (by decide : 0 + 0 ≤ _), (by decide : 0 + 0 ≤ _)⟩)
        dsimp only [Pt.U, Pt.locs, Pt.cells, Pt.slots] at X40 l40 y40 z40 st40 hQ40
        subst l40 y40 z40
        obtain ⟨rfl, rfl, e40⟩ := hQ40
        try rw [List.append_nil] at X40
        refine ⟨T40, X40, e40, fun t kt => ?_⟩
        subst hv33
        simp only [if_pos hc35] at kt
        refine XS.ifYes X32.here hx rfl (pc0 := 57) (pc' := 65) rfl (hb hby d5_57) rfl ((if0 _ _).trans (teq hc35).1) (by decide) (by decide) ?_
        refine XS.aloadN X32.here hx rfl (hb hby d5_65) rfl rfl ?_
        refine st36 _ ?_
        refine XS.iload X36.here hx rfl (hb hby d5_69) rfl ?_
        refine X36.baloadBooleans hx (j := t2_) (v := (.int f2_)) (by rw [e36]; exact Ar37.1) (State.isArrayOf_alike hZ.alike Ar37.2.1) Ar37.2.2 hin38 hat39 (g := (mkF m 71 #[vR a1, vI p2, vI p3, vI p4, vR s4, vI 2, vI 3, vI 2, vI t2_, vI (own_ic k2_ p3), vI v17] [iI t2_, iR bf])) rfl rfl (hb hby d5_71) _ ?_
        refine XS.iloadN X36.here hx rfl (hb hby d5_72) rfl ?_
        refine st40 _ ?_
        exact kt
      · refine ⟨T32, X32, e32, fun t kt => ?_⟩
        subst hv33
        simp only [if_neg hc35] at kt
        refine XS.ifNo X32.here hx rfl (hb hby d5_57) rfl ((if0 _ _).trans (feq hc35).1) ?_
        refine XS.iload X32.here hx rfl (hb hby d5_60) rfl ?_
        refine XS.goto X32.here hx rfl (pc0 := 62) (pc' := 76) rfl (hb hby d5_62) (by decide) (by decide) ?_
        exact kt
    have pre42 : ∀ t, Steps p.tables e below (T34.setTop (mkF m 80 #[vR a1, vI p2, vI p3, vI p4, vR s4, vI 2, vI 3, vI 2, vI t2_, vI (own_ic k2_ p3), vI v33] [iI v33])) t → Steps p.tables e below (s₁.setTop (entryFrame m #[(.ref a1), (.int p2), (.int p3), (.int p4)] 11)) t := by
      intro t kt
      refine pre26 t ?_
      refine XS.ifNo X18.here hx rfl (hb hby d5_80) rfl ((if0 _ _).trans (tlt hc25).2.1) ?_
      refine XS.iload X18.here hx rfl (hb hby d5_83) rfl ?_
      refine XS.iconst X18.here hx rfl (hb hby d5_85) ?_
      refine XS.iadd X18.here hx rfl (hb hby d5_86) rfl ?_
      show SA T18 m 87 #[vR a1, vI p2, vI p3, vI p4, vR s4, vI 0, vI 3, vI 1, vI t1_, vI (own_ic k1_ p3), vI v17] [iI ((1 : Int32) + (1 : Int32))]
      rw [(by decide : ((1 : Int32) + (1 : Int32)) = (2 : Int32))]
      refine XS.istore X18.here hx rfl (hb hby d5_87) rfl (l' := #[vR a1, vI p2, vI p3, vI p4, vR s4, vI 2, vI 3, vI 1, vI t1_, vI (own_ic k1_ p3), vI v17]) rfl ?_
      refine XS.goto X18.here hx rfl (pc0 := 89) (pc' := 96) rfl (hb hby d5_89) (by decide) (by decide) ?_
      refine XS.goto X18.here hx rfl (pc0 := 96) (pc' := 19) rfl (hb hby d5_96) (by decide) (by decide) ?_
      refine XS.iload X18.here hx rfl (hb hby d5_19) rfl ?_
      refine XS.iload X18.here hx rfl (hb hby d5_21) rfl ?_
      refine XS.icmpNo X18.here hx rfl (hb hby d5_23) rfl (tlt (by decide : (2 : Int32) < (3 : Int32))).2.1 ?_
      refine XS.iload X18.here hx rfl (hb hby d5_26) rfl ?_
      refine XS.iload X18.here hx rfl (hb hby d5_28) rfl ?_
      show SA T18 m 30 #[vR a1, vI p2, vI p3, vI p4, vR s4, vI 2, vI 3, vI 1, vI t1_, vI (own_ic k1_ p3), vI v17] [iI 3, iI 2]
      refine XS.iadd X18.here hx rfl (hb hby d5_30) rfl ?_
      show SA T18 m 31 #[vR a1, vI p2, vI p3, vI p4, vR s4, vI 2, vI 3, vI 1, vI t1_, vI (own_ic k1_ p3), vI v17] [iI ((2 : Int32) + (3 : Int32))]
      rw [(by decide : ((2 : Int32) + (3 : Int32)) = (5 : Int32))]
      refine XS.iconst X18.here hx rfl (hb hby d5_31) ?_
      refine XS.iushr X18.here hx rfl (hb hby d5_32) rfl ?_
      show SA T18 m 33 #[vR a1, vI p2, vI p3, vI p4, vR s4, vI 2, vI 3, vI 1, vI t1_, vI (own_ic k1_ p3), vI v17] [iI (((5 : Int32).toUInt32 >>> ((1 : Int32) &&& 31).toUInt32).toInt32)]
      rw [(by decide : (((5 : Int32).toUInt32 >>> ((1 : Int32) &&& 31).toUInt32).toInt32) = (2 : Int32))]
      refine XS.istore X18.here hx rfl (hb hby d5_33) rfl (l' := #[vR a1, vI p2, vI p3, vI p4, vR s4, vI 2, vI 3, vI 2, vI t1_, vI (own_ic k1_ p3), vI v17]) rfl ?_
      refine XS.aload X18.here hx rfl (hb hby d5_35) rfl rfl ?_
      refine XS.iload X18.here hx rfl (hb hby d5_37) rfl ?_
      refine X18.iaload hx (j := (2 : Int32)) (v := (.int t2_)) (by rw [e18]; exact Ar9.1) (State.isArrayOf_alike hZ.alike Ar9.2.1) Ar9.2.2 hin27 (Has.at H9 hin27 rfl) (g := (mkF m 39 #[vR a1, vI p2, vI p3, vI p4, vR s4, vI 2, vI 3, vI 2, vI t1_, vI (own_ic k1_ p3), vI v17] [iI 2, iR s4])) rfl rfl (hb hby d5_39) _ ?_
      refine XS.istore X18.here hx rfl (hb hby d5_40) rfl (l' := #[vR a1, vI p2, vI p3, vI p4, vR s4, vI 2, vI 3, vI 2, vI t2_, vI (own_ic k1_ p3), vI v17]) rfl ?_
      refine XS.aloadN X18.here hx rfl (hb hby d5_42) rfl rfl ?_
      refine st29 _ ?_
      refine XS.iload X29.here hx rfl (hb hby d5_46) rfl ?_
      refine X29.iaload hx (j := t2_) (v := (.int k2_)) (by rw [e29]; exact Ar13.1) (State.isArrayOf_alike hZ.alike Ar13.2.1) Ar13.2.2 hin30 hat31 (g := (mkF m 48 #[vR a1, vI p2, vI p3, vI p4, vR s4, vI 2, vI 3, vI 2, vI t2_, vI (own_ic k1_ p3), vI v17] [iI t2_, iR bi])) rfl rfl (hb hby d5_48) _ ?_
      refine XS.iloadN X29.here hx rfl (hb hby d5_49) rfl ?_
      refine st32 _ ?_
      refine XS.istore X32.here hx rfl (hb hby d5_53) rfl (l' := #[vR a1, vI p2, vI p3, vI p4, vR s4, vI 2, vI 3, vI 2, vI t2_, vI (own_ic k2_ p3), vI v17]) rfl ?_
      refine XS.iload X32.here hx rfl (hb hby d5_55) rfl ?_
      refine st34 _ ?_
      refine XS.istore X34.here hx rfl (hb hby d5_76) rfl (l' := #[vR a1, vI p2, vI p3, vI p4, vR s4, vI 2, vI 3, vI 2, vI t2_, vI (own_ic k2_ p3), vI v33]) rfl ?_
      refine XS.iload X34.here hx rfl (hb hby d5_78) rfl ?_
      exact kt
    by_cases hc41 : v33 < (0 : Int32)
    · obtain ⟨fs, hr, hrun, hended, hW, hsame⟩ := X34.leave (v := some (.int (3 : Int32))) (fun h => by rw [Bd.returns] at h; cases h)
      refine ⟨_, _, pre42 _ ?_, hrun, hended, _, _, rfl, ?_, ⟨_, rfl⟩, hW, hsame.mono (by decide) (by decide)⟩
      · refine XS.ifNo X34.here hx rfl (hb hby d5_80) rfl ((if0 _ _).trans (tlt hc41).2.1) ?_
        refine XS.iload X34.here hx rfl (hb hby d5_83) rfl ?_
        refine XS.iconst X34.here hx rfl (hb hby d5_85) ?_
        refine XS.iadd X34.here hx rfl (hb hby d5_86) rfl ?_
        show SA T34 m 87 #[vR a1, vI p2, vI p3, vI p4, vR s4, vI 2, vI 3, vI 2, vI t2_, vI (own_ic k2_ p3), vI v33] [iI ((2 : Int32) + (1 : Int32))]
        rw [(by decide : ((2 : Int32) + (1 : Int32)) = (3 : Int32))]
        refine XS.istore X34.here hx rfl (hb hby d5_87) rfl (l' := #[vR a1, vI p2, vI p3, vI p4, vR s4, vI 3, vI 3, vI 2, vI t2_, vI (own_ic k2_ p3), vI v33]) rfl ?_
        refine XS.goto X34.here hx rfl (pc0 := 89) (pc' := 96) rfl (hb hby d5_89) (by decide) (by decide) ?_
        refine XS.goto X34.here hx rfl (pc0 := 96) (pc' := 19) rfl (hb hby d5_96) (by decide) (by decide) ?_
        refine XS.iload X34.here hx rfl (hb hby d5_19) rfl ?_
        refine XS.iload X34.here hx rfl (hb hby d5_21) rfl ?_
        refine XS.icmpYes X34.here hx rfl (pc0 := 23) (pc' := 99) rfl (hb hby d5_23) rfl (flt (by decide : ¬ ((3 : Int32) < (3 : Int32)))).2.1 (by decide) (by decide) ?_
        refine XS.iload X34.here hx rfl (hb hby d5_99) rfl ?_
        show Steps _ _ _ (T34.setTop (mkF m 101 #[vR a1, vI p2, vI p3, vI p4, vR s4, vI 3, vI 3, vI 2, vI t2_, vI (own_ic k2_ p3), vI v33] [iI 3])) _
        exact retI X34 hx Bd.returns (hb hby d5_101) hr
      · show Q5_3 Z a1 p2 p3 p4 bi bf bp bc bn ki kf kp kc kn IL FL PL NL CV s4 k4 t0_ t1_ t2_ t3_ k0_ f0_ k1_ f1_ k2_ f2_ h0 _ T34.heap _
        rw [e34]
        exact ⟨by subst hv33 hv17; first | rfl | (simp only [own_s_3, if_pos hc25, if_pos hc41]; done) | (simp only [own_s_3, if_pos hc25, if_pos hc41]; rfl) | (simp only [own_s_3, if_pos hc25, if_pos hc41, nar] ; first | rfl | (simp; done) | decide), rfl, rfl⟩
    · obtain ⟨fs, hr, hrun, hended, hW, hsame⟩ := X34.leave (v := some (.int (2 : Int32))) (fun h => by rw [Bd.returns] at h; cases h)
      refine ⟨_, _, pre42 _ ?_, hrun, hended, _, _, rfl, ?_, ⟨_, rfl⟩, hW, hsame.mono (by decide) (by decide)⟩
      · refine XS.ifYes X34.here hx rfl (pc0 := 80) (pc' := 92) rfl (hb hby d5_80) rfl ((if0 _ _).trans (flt hc41).2.1) (by decide) (by decide) ?_
        refine XS.iload X34.here hx rfl (hb hby d5_92) rfl ?_
        refine XS.istore X34.here hx rfl (hb hby d5_94) rfl (l' := #[vR a1, vI p2, vI p3, vI p4, vR s4, vI 2, vI 2, vI 2, vI t2_, vI (own_ic k2_ p3), vI v33]) rfl ?_
        refine XS.goto X34.here hx rfl (pc0 := 96) (pc' := 19) rfl (hb hby d5_96) (by decide) (by decide) ?_
        refine XS.iload X34.here hx rfl (hb hby d5_19) rfl ?_
        refine XS.iload X34.here hx rfl (hb hby d5_21) rfl ?_
        show SA T34 m 23 #[vR a1, vI p2, vI p3, vI p4, vR s4, vI 2, vI 2, vI 2, vI t2_, vI (own_ic k2_ p3), vI v33] [iI 2, iI 2]
        refine XS.icmpYes X34.here hx rfl (pc0 := 23) (pc' := 99) rfl (hb hby d5_23) rfl (flt (by decide : ¬ ((2 : Int32) < (2 : Int32)))).2.1 (by decide) (by decide) ?_
        refine XS.iload X34.here hx rfl (hb hby d5_99) rfl ?_
        show Steps _ _ _ (T34.setTop (mkF m 101 #[vR a1, vI p2, vI p3, vI p4, vR s4, vI 2, vI 2, vI 2, vI t2_, vI (own_ic k2_ p3), vI v33] [iI 2])) _
        exact retI X34 hx Bd.returns (hb hby d5_101) hr
      · show Q5_3 Z a1 p2 p3 p4 bi bf bp bc bn ki kf kp kc kn IL FL PL NL CV s4 k4 t0_ t1_ t2_ t3_ k0_ f0_ k1_ f1_ k2_ f2_ h0 _ T34.heap _
        rw [e34]
        exact ⟨by subst hv33 hv17; first | rfl | (simp only [own_s_3, if_pos hc25, if_neg hc41]; done) | (simp only [own_s_3, if_pos hc25, if_neg hc41]; rfl) | (simp only [own_s_3, if_pos hc25, if_neg hc41, nar] ; first | rfl | (simp; done) | decide), rfl, rfl⟩
  · have hin43 := inb_of (j := (0 : Int32)) S9 ⟨by decide, by decide⟩
    obtain ⟨T45, X45, e45, st45⟩ := gF X18 hx hZ hown (ww hw 13 rfl) e18 F_items (g := (mkF m 43 #[vR a1, vI p2, vI p3, vI p4, vR s4, vI 0, vI 1, vI 0, vI t0_, vI (own_ic k1_ p3), vI v17] [iR a1])) rfl rfl (hb hby d5_43)
    have hin46 := inb_of (j := t0_) S13 hb0
    have hat47 : cl13.slots[(t0_).toNatClampNeg]? = some (.int k0_) := Has.at H13 hin46 (by rw [own_bsget, hk0])
    obtain ⟨_, _, ⟨T48, L48, k48, n48⟩, -, X48, ⟨Lc48, hQ48, l48, y48, z48⟩, st48⟩ := Jvm.LawKit.callS X45 hx (y := mn_0) hown (mvT hZ (ww hw 44 rfl)) (mvT hZ (ww hw 45 rfl)) (mvT hZ (ww hw 46 rfl)) (mvT hZ (ww hw 47 rfl)) (by decide) (backOf (W := 0) (rm6 l Z a0 hw [] k0_ p3 h0 ) hZ (ww hw 47 rfl) (ww hw 46 rfl) (by decide) (by decide)) (g := (mkF m 50 #[vR a1, vI p2, vI p3, vI p4, vR s4, vI 0, vI 1, vI 0, vI t0_, vI (own_ic k1_ p3), vI v17] [iI p3, iI k0_])) rfl (by rw [hml]; rfl) (argsL := [(.int k0_), (.int p3)]) (rest := []) (lenOf pd_0 rfl) rfl (wz rfl) (hb hby d5_50) (fun _ _ => ⟨rfl, e45, (by decide : 0 + 0 ≤ _), (by decide : 0 + 0 ≤ _)⟩)
    dsimp only [Pt.U, Pt.locs, Pt.cells, Pt.slots] at X48 l48 y48 z48 st48 hQ48
    subst l48 y48 z48
    obtain ⟨rfl, rfl, e48⟩ := hQ48
    try rw [List.append_nil] at X48
    obtain ⟨v49, hv49⟩ : ∃ z : Int32, z = (if (own_ic k0_ p3) = (0 : Int32) then (own_bc f0_ p4) else (own_ic k0_ p3)) := ⟨_, rfl⟩
    obtain ⟨T50, X50, e50, st50⟩ : own_Mid X48 h0 (mkF m 57 #[vR a1, vI p2, vI p3, vI p4, vR s4, vI 0, vI 1, vI 0, vI t0_, vI (own_ic k0_ p3), vI v17] [iI (own_ic k0_ p3)]) (mkF m 76 #[vR a1, vI p2, vI p3, vI p4, vR s4, vI 0, vI 1, vI 0, vI t0_, vI (own_ic k0_ p3), vI v17] [iI v49]) := by
      by_cases hc51 : (own_ic k0_ p3) = (0 : Int32)
      · obtain ⟨T52, X52, e52, st52⟩ := gF X48 hx hZ hown (ww hw 16 rfl) e48 F_sameEvents (g := (mkF m 66 #[vR a1, vI p2, vI p3, vI p4, vR s4, vI 0, vI 1, vI 0, vI t0_, vI (own_ic k0_ p3), vI v17] [iR a1])) rfl rfl (hb hby d5_66)
        obtain ⟨cl53, Ar53, q53, S53, M53, H53, G53⟩ := id V_bf
        have hin54 := inb_of (j := t0_) S53 hb0
        have hat55 : cl53.slots[(t0_).toNatClampNeg]? = some (.int f0_) := Has.at H53 hin54 (by rw [own_bsget, hf0])
        obtain ⟨_, _, ⟨T56, L56, k56, n56⟩, -, X56, ⟨Lc56, hQ56, l56, y56, z56⟩, st56⟩ := Jvm.LawKit.callS X52 hx (y := mn_1) hown (mvT hZ (ww hw 58 rfl)) (mvT hZ (ww hw 59 rfl)) (mvT hZ (ww hw 60 rfl)) (mvT hZ (ww hw 61 rfl)) (by decide) (backOf (W := 0) (rm9 l Z a0 hw [] f0_ p4 h0 ) hZ (ww hw 61 rfl) (ww hw 60 rfl) (by decide) (by decide)) (g := (mkF m 73 #[vR a1, vI p2, vI p3, vI p4, vR s4, vI 0, vI 1, vI 0, vI t0_, vI (own_ic k0_ p3), vI v17] [iI p4, iI f0_])) rfl (by rw [hml]; rfl) (argsL := [(.int f0_), (.int p4)]) (rest := []) (lenOf pd_1 rfl) rfl (wz rfl) (hb hby d5_73) (fun _ _ => ⟨rfl, e52, (by decide : 0 + 0 ≤ _), (by decide : 0 + 0 ≤ _)⟩)
        dsimp only [Pt.U, Pt.locs, Pt.cells, Pt.slots] at X56 l56 y56 z56 st56 hQ56
        subst l56 y56 z56
        obtain ⟨rfl, rfl, e56⟩ := hQ56
        try rw [List.append_nil] at X56
        refine ⟨T56, X56, e56, fun t kt => ?_⟩
        subst hv49
        simp only [if_pos hc51] at kt
        refine XS.ifYes X48.here hx rfl (pc0 := 57) (pc' := 65) rfl (hb hby d5_57) rfl ((if0 _ _).trans (teq hc51).1) (by decide) (by decide) ?_
        refine XS.aloadN X48.here hx rfl (hb hby d5_65) rfl rfl ?_
        refine st52 _ ?_
        refine XS.iload X52.here hx rfl (hb hby d5_69) rfl ?_
        refine X52.baloadBooleans hx (j := t0_) (v := (.int f0_)) (by rw [e52]; exact Ar53.1) (State.isArrayOf_alike hZ.alike Ar53.2.1) Ar53.2.2 hin54 hat55 (g := (mkF m 71 #[vR a1, vI p2, vI p3, vI p4, vR s4, vI 0, vI 1, vI 0, vI t0_, vI (own_ic k0_ p3), vI v17] [iI t0_, iR bf])) rfl rfl (hb hby d5_71) _ ?_
        refine XS.iloadN X52.here hx rfl (hb hby d5_72) rfl ?_
        refine st56 _ ?_
        exact kt
      · refine ⟨T48, X48, e48, fun t kt => ?_⟩
        subst hv49
        simp only [if_neg hc51] at kt
        refine XS.ifNo X48.here hx rfl (hb hby d5_57) rfl ((if0 _ _).trans (feq hc51).1) ?_
        refine XS.iload X48.here hx rfl (hb hby d5_60) rfl ?_
        refine XS.goto X48.here hx rfl (pc0 := 62) (pc' := 76) rfl (hb hby d5_62) (by decide) (by decide) ?_
        exact kt
    have pre58 : ∀ t, Steps p.tables e below (T50.setTop (mkF m 80 #[vR a1, vI p2, vI p3, vI p4, vR s4, vI 0, vI 1, vI 0, vI t0_, vI (own_ic k0_ p3), vI v49] [iI v49])) t → Steps p.tables e below (s₁.setTop (entryFrame m #[(.ref a1), (.int p2), (.int p3), (.int p4)] 11)) t := by
      intro t kt
      refine pre26 t ?_
      refine XS.ifYes X18.here hx rfl (pc0 := 80) (pc' := 92) rfl (hb hby d5_80) rfl ((if0 _ _).trans (flt hc25).2.1) (by decide) (by decide) ?_
      refine XS.iload X18.here hx rfl (hb hby d5_92) rfl ?_
      refine XS.istore X18.here hx rfl (hb hby d5_94) rfl (l' := #[vR a1, vI p2, vI p3, vI p4, vR s4, vI 0, vI 1, vI 1, vI t1_, vI (own_ic k1_ p3), vI v17]) rfl ?_
      refine XS.goto X18.here hx rfl (pc0 := 96) (pc' := 19) rfl (hb hby d5_96) (by decide) (by decide) ?_
      refine XS.iload X18.here hx rfl (hb hby d5_19) rfl ?_
      refine XS.iload X18.here hx rfl (hb hby d5_21) rfl ?_
      show SA T18 m 23 #[vR a1, vI p2, vI p3, vI p4, vR s4, vI 0, vI 1, vI 1, vI t1_, vI (own_ic k1_ p3), vI v17] [iI 1, iI 0]
      refine XS.icmpNo X18.here hx rfl (hb hby d5_23) rfl (tlt (by decide : (0 : Int32) < (1 : Int32))).2.1 ?_
      refine XS.iload X18.here hx rfl (hb hby d5_26) rfl ?_
      refine XS.iload X18.here hx rfl (hb hby d5_28) rfl ?_
      refine XS.iadd X18.here hx rfl (hb hby d5_30) rfl ?_
      show SA T18 m 31 #[vR a1, vI p2, vI p3, vI p4, vR s4, vI 0, vI 1, vI 1, vI t1_, vI (own_ic k1_ p3), vI v17] [iI ((0 : Int32) + (1 : Int32))]
      rw [(by decide : ((0 : Int32) + (1 : Int32)) = (1 : Int32))]
      refine XS.iconst X18.here hx rfl (hb hby d5_31) ?_
      refine XS.iushr X18.here hx rfl (hb hby d5_32) rfl ?_
      show SA T18 m 33 #[vR a1, vI p2, vI p3, vI p4, vR s4, vI 0, vI 1, vI 1, vI t1_, vI (own_ic k1_ p3), vI v17] [iI (((1 : Int32).toUInt32 >>> ((1 : Int32) &&& 31).toUInt32).toInt32)]
      rw [(by decide : (((1 : Int32).toUInt32 >>> ((1 : Int32) &&& 31).toUInt32).toInt32) = (0 : Int32))]
      refine XS.istore X18.here hx rfl (hb hby d5_33) rfl (l' := #[vR a1, vI p2, vI p3, vI p4, vR s4, vI 0, vI 1, vI 0, vI t1_, vI (own_ic k1_ p3), vI v17]) rfl ?_
      refine XS.aload X18.here hx rfl (hb hby d5_35) rfl rfl ?_
      refine XS.iload X18.here hx rfl (hb hby d5_37) rfl ?_
      refine X18.iaload hx (j := (0 : Int32)) (v := (.int t0_)) (by rw [e18]; exact Ar9.1) (State.isArrayOf_alike hZ.alike Ar9.2.1) Ar9.2.2 hin43 (Has.at H9 hin43 rfl) (g := (mkF m 39 #[vR a1, vI p2, vI p3, vI p4, vR s4, vI 0, vI 1, vI 0, vI t1_, vI (own_ic k1_ p3), vI v17] [iI 0, iR s4])) rfl rfl (hb hby d5_39) _ ?_
      refine XS.istore X18.here hx rfl (hb hby d5_40) rfl (l' := #[vR a1, vI p2, vI p3, vI p4, vR s4, vI 0, vI 1, vI 0, vI t0_, vI (own_ic k1_ p3), vI v17]) rfl ?_
      refine XS.aloadN X18.here hx rfl (hb hby d5_42) rfl rfl ?_
      refine st45 _ ?_
      refine XS.iload X45.here hx rfl (hb hby d5_46) rfl ?_
      refine X45.iaload hx (j := t0_) (v := (.int k0_)) (by rw [e45]; exact Ar13.1) (State.isArrayOf_alike hZ.alike Ar13.2.1) Ar13.2.2 hin46 hat47 (g := (mkF m 48 #[vR a1, vI p2, vI p3, vI p4, vR s4, vI 0, vI 1, vI 0, vI t0_, vI (own_ic k1_ p3), vI v17] [iI t0_, iR bi])) rfl rfl (hb hby d5_48) _ ?_
      refine XS.iloadN X45.here hx rfl (hb hby d5_49) rfl ?_
      refine st48 _ ?_
      refine XS.istore X48.here hx rfl (hb hby d5_53) rfl (l' := #[vR a1, vI p2, vI p3, vI p4, vR s4, vI 0, vI 1, vI 0, vI t0_, vI (own_ic k0_ p3), vI v17]) rfl ?_
      refine XS.iload X48.here hx rfl (hb hby d5_55) rfl ?_
      refine st50 _ ?_
      refine XS.istore X50.here hx rfl (hb hby d5_76) rfl (l' := #[vR a1, vI p2, vI p3, vI p4, vR s4, vI 0, vI 1, vI 0, vI t0_, vI (own_ic k0_ p3), vI v49]) rfl ?_
      refine XS.iload X50.here hx rfl (hb hby d5_78) rfl ?_
      exact kt
    by_cases hc57 : v49 < (0 : Int32)
    · obtain ⟨fs, hr, hrun, hended, hW, hsame⟩ := X50.leave (v := some (.int (1 : Int32))) (fun h => by rw [Bd.returns] at h; cases h)
      refine ⟨_, _, pre58 _ ?_, hrun, hended, _, _, rfl, ?_, ⟨_, rfl⟩, hW, hsame.mono (by decide) (by decide)⟩
      · refine XS.ifNo X50.here hx rfl (hb hby d5_80) rfl ((if0 _ _).trans (tlt hc57).2.1) ?_
        refine XS.iload X50.here hx rfl (hb hby d5_83) rfl ?_
        refine XS.iconst X50.here hx rfl (hb hby d5_85) ?_
        refine XS.iadd X50.here hx rfl (hb hby d5_86) rfl ?_
        show SA T50 m 87 #[vR a1, vI p2, vI p3, vI p4, vR s4, vI 0, vI 1, vI 0, vI t0_, vI (own_ic k0_ p3), vI v49] [iI ((0 : Int32) + (1 : Int32))]
        rw [(by decide : ((0 : Int32) + (1 : Int32)) = (1 : Int32))]
        refine XS.istore X50.here hx rfl (hb hby d5_87) rfl (l' := #[vR a1, vI p2, vI p3, vI p4, vR s4, vI 1, vI 1, vI 0, vI t0_, vI (own_ic k0_ p3), vI v49]) rfl ?_
        refine XS.goto X50.here hx rfl (pc0 := 89) (pc' := 96) rfl (hb hby d5_89) (by decide) (by decide) ?_
        refine XS.goto X50.here hx rfl (pc0 := 96) (pc' := 19) rfl (hb hby d5_96) (by decide) (by decide) ?_
        refine XS.iload X50.here hx rfl (hb hby d5_19) rfl ?_
        refine XS.iload X50.here hx rfl (hb hby d5_21) rfl ?_
        refine XS.icmpYes X50.here hx rfl (pc0 := 23) (pc' := 99) rfl (hb hby d5_23) rfl (flt (by decide : ¬ ((1 : Int32) < (1 : Int32)))).2.1 (by decide) (by decide) ?_
        refine XS.iload X50.here hx rfl (hb hby d5_99) rfl ?_
        show Steps _ _ _ (T50.setTop (mkF m 101 #[vR a1, vI p2, vI p3, vI p4, vR s4, vI 1, vI 1, vI 0, vI t0_, vI (own_ic k0_ p3), vI v49] [iI 1])) _
        exact retI X50 hx Bd.returns (hb hby d5_101) hr
      · show Q5_3 Z a1 p2 p3 p4 bi bf bp bc bn ki kf kp kc kn IL FL PL NL CV s4 k4 t0_ t1_ t2_ t3_ k0_ f0_ k1_ f1_ k2_ f2_ h0 _ T50.heap _
        rw [e50]
        exact ⟨by subst hv49 hv17; first | rfl | (simp only [own_s_3, if_neg hc25, if_pos hc57]; done) | (simp only [own_s_3, if_neg hc25, if_pos hc57]; rfl) | (simp only [own_s_3, if_neg hc25, if_pos hc57, nar] ; first | rfl | (simp; done) | decide), rfl, rfl⟩
    · obtain ⟨fs, hr, hrun, hended, hW, hsame⟩ := X50.leave (v := some (.int (0 : Int32))) (fun h => by rw [Bd.returns] at h; cases h)
      refine ⟨_, _, pre58 _ ?_, hrun, hended, _, _, rfl, ?_, ⟨_, rfl⟩, hW, hsame.mono (by decide) (by decide)⟩
      · refine XS.ifYes X50.here hx rfl (pc0 := 80) (pc' := 92) rfl (hb hby d5_80) rfl ((if0 _ _).trans (flt hc57).2.1) (by decide) (by decide) ?_
        refine XS.iload X50.here hx rfl (hb hby d5_92) rfl ?_
        refine XS.istore X50.here hx rfl (hb hby d5_94) rfl (l' := #[vR a1, vI p2, vI p3, vI p4, vR s4, vI 0, vI 0, vI 0, vI t0_, vI (own_ic k0_ p3), vI v49]) rfl ?_
        refine XS.goto X50.here hx rfl (pc0 := 96) (pc' := 19) rfl (hb hby d5_96) (by decide) (by decide) ?_
        refine XS.iload X50.here hx rfl (hb hby d5_19) rfl ?_
        refine XS.iload X50.here hx rfl (hb hby d5_21) rfl ?_
        show SA T50 m 23 #[vR a1, vI p2, vI p3, vI p4, vR s4, vI 0, vI 0, vI 0, vI t0_, vI (own_ic k0_ p3), vI v49] [iI 0, iI 0]
        refine XS.icmpYes X50.here hx rfl (pc0 := 23) (pc' := 99) rfl (hb hby d5_23) rfl (flt (by decide : ¬ ((0 : Int32) < (0 : Int32)))).2.1 (by decide) (by decide) ?_
        refine XS.iload X50.here hx rfl (hb hby d5_99) rfl ?_
        show Steps _ _ _ (T50.setTop (mkF m 101 #[vR a1, vI p2, vI p3, vI p4, vR s4, vI 0, vI 0, vI 0, vI t0_, vI (own_ic k0_ p3), vI v49] [iI 0])) _
        exact retI X50 hx Bd.returns (hb hby d5_101) hr
      · show Q5_3 Z a1 p2 p3 p4 bi bf bp bc bn ki kf kp kc kn IL FL PL NL CV s4 k4 t0_ t1_ t2_ t3_ k0_ f0_ k1_ f1_ k2_ f2_ h0 _ T50.heap _
        rw [e50]
        exact ⟨by subst hv49 hv17; first | rfl | (simp only [own_s_3, if_neg hc25, if_neg hc57]; done) | (simp only [own_s_3, if_neg hc25, if_neg hc57]; rfl) | (simp only [own_s_3, if_neg hc25, if_neg hc57, nar] ; first | rfl | (simp; done) | decide), rfl, rfl⟩
def Q5_3v (Z : State) (a1 : Addr) (p2 : Int32) (p3 : Int32) (p4 : Int32) (bi bf bp bc bn : Addr) (ki kf kp kc kn : ClassId) (IL FL PL NL : List Int32) (CV : List Value) (s4 : Addr) (k4 : ClassId) (t0_ t1_ t2_ t3_ : Int32) (k0_ f0_ k1_ f1_ k2_ f2_ : Int32) (at_ : Int32) (h0 : Heap) (v : Option Value) (h : Heap) (L : List Loc) : Prop := v = some (.int at_) ∧ L = [] ∧ h = h0
theorem rm5_3v (l : Launch) (Z : State) (a0 : Array Value) (hw : ∀ d ∈ tables_1, d.before a0 Z = true) (ws : List Jvm.Cond) (a1 : Addr) (p2 : Int32) (p3 : Int32) (p4 : Int32) (bi bf bp bc bn : Addr) (ki kf kp kc kn : ClassId) (IL FL PL NL : List Int32) (CV : List Value) (s4 : Addr) (k4 : ClassId) (t0_ t1_ t2_ t3_ : Int32) (k0_ f0_ k1_ f1_ k2_ f2_ : Int32) (at_ : Int32) (h0 : Heap) (E_a1 : Exa Z h0 a1 "com/example/tidemine/tidemine/PatternTrie") (F_children : Fld Z h0 a1 "com/example/tidemine/tidemine/PatternTrie" "children" "[[I" (.ref bc)) (V_bc : Arv Z h0 bc kc (.array .int) (16 : Int32) CV .null) (F_childCounts : Fld Z h0 a1 "com/example/tidemine/tidemine/PatternTrie" "childCounts" "[I" (.ref bn)) (V_bn : Arv Z h0 bn kn .int (16 : Int32) (own_bs NL) (.int (0 : Int32))) (F_items : Fld Z h0 a1 "com/example/tidemine/tidemine/PatternTrie" "items" "[I" (.ref bi)) (V_bi : Arv Z h0 bi ki .int (16 : Int32) (own_bs IL) (.int (0 : Int32))) (F_sameEvents : Fld Z h0 a1 "com/example/tidemine/tidemine/PatternTrie" "sameEvents" "[Z" (.ref bf)) (V_bf : Arv Z h0 bf kf .boolean (16 : Int32) (own_bs FL) (.int (0 : Int32))) (hp : ¬ p2 < (0 : Int32) ∧ p2 < (16 : Int32)) (hcv : CV.getD p2.toNatClampNeg .null = .ref s4) (hnc : NL.getD p2.toNatClampNeg 0 = (3 : Int32)) (V_s4 : Arv Z h0 s4 k4 .int (4 : Int32) [(.int t0_), (.int t1_), (.int t2_), (.int t3_)] (.int (0 : Int32))) (hb0 : ¬ t0_ < (0 : Int32) ∧ t0_ < (16 : Int32)) (hk0 : IL.getD t0_.toNatClampNeg 0 = k0_) (hf0 : FL.getD t0_.toNatClampNeg 0 = f0_) (hb1 : ¬ t1_ < (0 : Int32) ∧ t1_ < (16 : Int32)) (hk1 : IL.getD t1_.toNatClampNeg 0 = k1_) (hf1 : FL.getD t1_.toNatClampNeg 0 = f1_) (hb2 : ¬ t2_ < (0 : Int32) ∧ t2_ < (16 : Int32)) (hk2 : IL.getD t2_.toNatClampNeg 0 = k2_) (hf2 : FL.getD t2_.toNatClampNeg 0 = f2_) (hat : own_s_3 k0_ f0_ k1_ f1_ k2_ f2_ p3 p4 = at_) :
    MetFree l mn_2 (head1 (Jvm.Cond.code mn_2 prog_23_method_19_code 11 (some .int) :: ws) ({ frames := 1, cells := 0, slots := 0, locals := 13 } : Room)) (fun a U => a = #[(.ref a1), (.int p2), (.int p3), (.int p4)] ∧ Z.Warmed39 U.vm ∧ U.heap = h0) (fun _ _ _ _ _ => True) (fun _ U o U' => ∃ v L, o = .returned v ∧ Q5_3v Z a1 p2 p3 p4 bi bf bp bc bn ki kf kp kc kn IL FL PL NL CV s4 k4 t0_ t1_ t2_ t3_ k0_ f0_ k1_ f1_ k2_ f2_ at_ h0 v U'.heap L ∧ FrameEnd U o U' L ({ frames := 1, cells := 0, slots := 0, locals := 13 } : Room).cells ({ frames := 1, cells := 0, slots := 0, locals := 13 } : Room).slots) := by
  subst hat
  exact rm5_3 l Z a0 hw ws a1 p2 p3 p4 bi bf bp bc bn ki kf kp kc kn IL FL PL NL CV s4 k4 t0_ t1_ t2_ t3_ k0_ f0_ k1_ f1_ k2_ f2_ h0 E_a1 F_children V_bc F_childCounts V_bn F_items V_bi F_sameEvents V_bf hp hcv hnc V_s4 hb0 hk0 hf0 hb1 hk1 hf1 hb2 hk2 hf2
def own_Q4t (Z : State) (a1 : Addr) (p2 p3 p4 : Int32) (bi bf bp bc bn : Addr) (ki kf kp kc kn : ClassId) (IL FL PL NL : List Int32) (CV : List Value) (s4 : Addr) (k4 : ClassId) (c1_ sz : Int32) (FIN : List Value) (h0 : Heap) (n0 : Nat) (v : Option Value) (h : Heap) (L : List Loc) : Prop := v = some (.int sz) ∧ Fr n0 L ∧ Keep h0 h [a1, bi, bf, bp, bc, bn, s4] ∧ Exa Z h a1 "com/example/tidemine/tidemine/PatternTrie" ∧ Fld Z h a1 "com/example/tidemine/tidemine/PatternTrie" "size" "I" (.int (sz + (1 : Int32))) ∧ Fld Z h a1 "com/example/tidemine/tidemine/PatternTrie" "items" "[I" (.ref bi) ∧ Arv Z h bi ki .int (16 : Int32) (own_bs (IL.set sz.toNatClampNeg p3)) (.int (0 : Int32)) ∧ Fld Z h a1 "com/example/tidemine/tidemine/PatternTrie" "sameEvents" "[Z" (.ref bf) ∧ Arv Z h bf kf .boolean (16 : Int32) (own_bs (FL.set sz.toNatClampNeg p4)) (.int (0 : Int32)) ∧ Fld Z h a1 "com/example/tidemine/tidemine/PatternTrie" "parents" "[I" (.ref bp) ∧ Arv Z h bp kp .int (16 : Int32) (own_bs (PL.set sz.toNatClampNeg p2)) (.int (0 : Int32)) ∧ Fld Z h a1 "com/example/tidemine/tidemine/PatternTrie" "children" "[[I" (.ref bc) ∧ Arv Z h bc kc (.array .int) (16 : Int32) (CV.set p2.toNatClampNeg (.ref s4)) .null ∧ Fld Z h a1 "com/example/tidemine/tidemine/PatternTrie" "childCounts" "[I" (.ref bn) ∧ Arv Z h bn kn .int (16 : Int32) (own_bs (NL.set p2.toNatClampNeg c1_)) (.int (0 : Int32)) ∧ Arv Z h s4 k4 .int (4 : Int32) FIN (.int (0 : Int32)) ∧ Exa Z h s4 "[I"
theorem d4_66 : decode prog_23_method_3_code 66 = .ok (.aload_n 0, 1) := by decide +kernel
theorem d4_67 : decode prog_23_method_3_code 67 = .ok (.getfield 7, 3) := by decide +kernel
theorem d4_70 : decode prog_23_method_3_code 70 = .ok (.aload_n 0, 1) := by decide +kernel
theorem d4_71 : decode prog_23_method_3_code 71 = .ok (.getfield 13, 3) := by decide +kernel
theorem d4_74 : decode prog_23_method_3_code 74 = .ok (.arraylength, 1) := by decide +kernel
theorem d4_75 : decode prog_23_method_3_code 75 = .ok (.if_icmp .ne 79, 3) := by decide +kernel
theorem d4_154 : decode prog_23_method_3_code 154 = .ok (.aload_n 0, 1) := by decide +kernel
theorem d4_155 : decode prog_23_method_3_code 155 = .ok (.dup, 1) := by decide +kernel
theorem d4_156 : decode prog_23_method_3_code 156 = .ok (.getfield 7, 3) := by decide +kernel
theorem d4_159 : decode prog_23_method_3_code 159 = .ok (.dup_x1, 1) := by decide +kernel
theorem d4_160 : decode prog_23_method_3_code 160 = .ok (.iconst 1, 1) := by decide +kernel
theorem d4_161 : decode prog_23_method_3_code 161 = .ok (.iadd, 1) := by decide +kernel
theorem d4_162 : decode prog_23_method_3_code 162 = .ok (.putfield 7, 3) := by decide +kernel
theorem d4_165 : decode prog_23_method_3_code 165 = .ok (.istore 7, 2) := by decide +kernel
theorem d4_167 : decode prog_23_method_3_code 167 = .ok (.aload_n 0, 1) := by decide +kernel
theorem d4_168 : decode prog_23_method_3_code 168 = .ok (.getfield 13, 3) := by decide +kernel
theorem d4_171 : decode prog_23_method_3_code 171 = .ok (.iload 7, 2) := by decide +kernel
theorem d4_173 : decode prog_23_method_3_code 173 = .ok (.iload_n 2, 1) := by decide +kernel
theorem d4_174 : decode prog_23_method_3_code 174 = .ok (.iastore, 1) := by decide +kernel
theorem d4_175 : decode prog_23_method_3_code 175 = .ok (.aload_n 0, 1) := by decide +kernel
theorem d4_176 : decode prog_23_method_3_code 176 = .ok (.getfield 17, 3) := by decide +kernel
theorem d4_179 : decode prog_23_method_3_code 179 = .ok (.iload 7, 2) := by decide +kernel
theorem d4_181 : decode prog_23_method_3_code 181 = .ok (.iload_n 3, 1) := by decide +kernel
theorem d4_182 : decode prog_23_method_3_code 182 = .ok (.bastore, 1) := by decide +kernel
theorem d4_183 : decode prog_23_method_3_code 183 = .ok (.aload_n 0, 1) := by decide +kernel
theorem d4_184 : decode prog_23_method_3_code 184 = .ok (.getfield 21, 3) := by decide +kernel
theorem d4_187 : decode prog_23_method_3_code 187 = .ok (.iload 7, 2) := by decide +kernel
theorem d4_189 : decode prog_23_method_3_code 189 = .ok (.iload_n 1, 1) := by decide +kernel
theorem d4_190 : decode prog_23_method_3_code 190 = .ok (.iastore, 1) := by decide +kernel
theorem d4_191 : decode prog_23_method_3_code 191 = .ok (.aload 5, 2) := by decide +kernel
theorem d4_193 : decode prog_23_method_3_code 193 = .ok (.ifnonnull 11, 3) := by decide +kernel
theorem d4_204 : decode prog_23_method_3_code 204 = .ok (.iload 6, 2) := by decide +kernel
theorem d4_206 : decode prog_23_method_3_code 206 = .ok (.aload 5, 2) := by decide +kernel
theorem d4_208 : decode prog_23_method_3_code 208 = .ok (.arraylength, 1) := by decide +kernel
theorem d4_209 : decode prog_23_method_3_code 209 = .ok (.if_icmp .ne 14, 3) := by decide +kernel
theorem d4_223 : decode prog_23_method_3_code 223 = .ok (.aload 5, 2) := by decide +kernel
theorem d4_225 : decode prog_23_method_3_code 225 = .ok (.iload 4, 2) := by decide +kernel
theorem d4_227 : decode prog_23_method_3_code 227 = .ok (.aload 5, 2) := by decide +kernel
theorem d4_229 : decode prog_23_method_3_code 229 = .ok (.iload 4, 2) := by decide +kernel
theorem d4_231 : decode prog_23_method_3_code 231 = .ok (.iconst 1, 1) := by decide +kernel
theorem d4_232 : decode prog_23_method_3_code 232 = .ok (.iadd, 1) := by decide +kernel
theorem d4_233 : decode prog_23_method_3_code 233 = .ok (.iload 6, 2) := by decide +kernel
theorem d4_235 : decode prog_23_method_3_code 235 = .ok (.iload 4, 2) := by decide +kernel
theorem d4_237 : decode prog_23_method_3_code 237 = .ok (.isub, 1) := by decide +kernel
theorem d4_238 : decode prog_23_method_3_code 238 = .ok (.invokestatic 49, 3) := by decide +kernel
theorem d4_241 : decode prog_23_method_3_code 241 = .ok (.aload 5, 2) := by decide +kernel
theorem d4_243 : decode prog_23_method_3_code 243 = .ok (.iload 4, 2) := by decide +kernel
theorem d4_245 : decode prog_23_method_3_code 245 = .ok (.iload 7, 2) := by decide +kernel
theorem d4_247 : decode prog_23_method_3_code 247 = .ok (.iastore, 1) := by decide +kernel
theorem d4_248 : decode prog_23_method_3_code 248 = .ok (.aload_n 0, 1) := by decide +kernel
theorem d4_249 : decode prog_23_method_3_code 249 = .ok (.getfield 25, 3) := by decide +kernel
theorem d4_252 : decode prog_23_method_3_code 252 = .ok (.iload_n 1, 1) := by decide +kernel
theorem d4_253 : decode prog_23_method_3_code 253 = .ok (.aload 5, 2) := by decide +kernel
theorem d4_255 : decode prog_23_method_3_code 255 = .ok (.aastore, 1) := by decide +kernel
theorem d4_256 : decode prog_23_method_3_code 256 = .ok (.aload_n 0, 1) := by decide +kernel
theorem d4_257 : decode prog_23_method_3_code 257 = .ok (.getfield 29, 3) := by decide +kernel
theorem d4_260 : decode prog_23_method_3_code 260 = .ok (.iload_n 1, 1) := by decide +kernel
theorem d4_261 : decode prog_23_method_3_code 261 = .ok (.iload 6, 2) := by decide +kernel
theorem d4_263 : decode prog_23_method_3_code 263 = .ok (.iconst 1, 1) := by decide +kernel
theorem d4_264 : decode prog_23_method_3_code 264 = .ok (.iadd, 1) := by decide +kernel
theorem d4_265 : decode prog_23_method_3_code 265 = .ok (.iastore, 1) := by decide +kernel
theorem d4_266 : decode prog_23_method_3_code 266 = .ok (.iload 7, 2) := by decide +kernel
theorem d4_268 : decode prog_23_method_3_code 268 = .ok (.ireturn, 1) := by decide +kernel
theorem own_t4 {p : Program} {l : Launch} {e : Env} {s : State} {m : MethodId} {below : List Frame} {meth : Method} {c : Code} {T0 : State} {locs : List Loc} {Z : State} {a0 : Array Value} {h0 hT : Heap} {n0 : Nat} {a1 : Addr} {p2 p3 p4 : Int32} {bi bf bp bc bn : Addr} {ki kf kp kc kn : ClassId} {IL FL PL NL : List Int32} {CV : List Value} {s4 : Addr} {k4 : ClassId} {SL : List Int32} {at_ c_ c1_ sz : Int32} {FIN : List Value}
    (X0 : Stand p l e ({ frames := 2, cells := 1, slots := 4, locals := 35 } : Room) s m #[(.ref a1), (.int p2), (.int p3), (.int p4)] below meth c T0 locs 0 0) (hx : p.tables.exec = Jvm.exec) (hZ : Z.Warmed39 s.vm) (hw : ∀ d ∈ tables_1, d.before a0 Z = true) (hby : c.code = prog_23_method_3_code) (hml : c.maxLocals = 8) (hown : s.vm.findClass "com/example/tidemine/tidemine/PatternTrie" = some m.cls) (hret : meth.sig.returnType = some .int) (hlocks : meth.locks = false) (e0 : T0.heap = hT) (Kt0 : Keep h0 hT [a1, bi, bf, bp, bc, bn, s4]) (N0 : Fr n0 locs) (Z0 : n0 ≤ h0.size) (E_a1 : Exa Z hT a1 "com/example/tidemine/tidemine/PatternTrie") (F_items : Fld Z hT a1 "com/example/tidemine/tidemine/PatternTrie" "items" "[I" (.ref bi)) (V_bi : Arv Z hT bi ki .int (16 : Int32) (own_bs IL) (.int (0 : Int32))) (F_sameEvents : Fld Z hT a1 "com/example/tidemine/tidemine/PatternTrie" "sameEvents" "[Z" (.ref bf)) (V_bf : Arv Z hT bf kf .boolean (16 : Int32) (own_bs FL) (.int (0 : Int32))) (F_parents : Fld Z hT a1 "com/example/tidemine/tidemine/PatternTrie" "parents" "[I" (.ref bp)) (V_bp : Arv Z hT bp kp .int (16 : Int32) (own_bs PL) (.int (0 : Int32))) (F_children : Fld Z hT a1 "com/example/tidemine/tidemine/PatternTrie" "children" "[[I" (.ref bc)) (V_bc : Arv Z hT bc kc (.array .int) (16 : Int32) CV .null) (F_childCounts : Fld Z hT a1 "com/example/tidemine/tidemine/PatternTrie" "childCounts" "[I" (.ref bn)) (V_bn : Arv Z hT bn kn .int (16 : Int32) (own_bs NL) (.int (0 : Int32))) (hp : ¬ p2 < (0 : Int32) ∧ p2 < (16 : Int32)) (V_s4 : Arv Z hT s4 k4 .int (4 : Int32) (own_bs SL) (.int (0 : Int32))) (hIL : IL.length = 16) (hFL : FL.length = 16) (hPL : PL.length = 16) (hNL : NL.length = 16) (hCV : CV.length = 16) (hz : ¬ sz < (0 : Int32) ∧ sz < (16 : Int32)) (F_size : Fld Z hT a1 "com/example/tidemine/tidemine/PatternTrie" "size" "I" (.int sz)) (O_bc : OvrA Z kc .int "[I") (h4 : nar .boolean p4 = p4) (g_a1 : n0 ≤ a1) (g_bi : n0 ≤ bi) (g_bf : n0 ≤ bf) (g_bp : n0 ≤ bp) (g_bc : n0 ≤ bc) (g_bn : n0 ≤ bn) (g_s4 : n0 ≤ s4) (ne_a1_bi : a1 ≠ bi) (ne_a1_bf : a1 ≠ bf) (ne_a1_bp : a1 ≠ bp) (ne_a1_bc : a1 ≠ bc) (ne_a1_bn : a1 ≠ bn) (ne_a1_s4 : a1 ≠ s4) (ne_bi_bf : bi ≠ bf) (ne_bi_bp : bi ≠ bp) (ne_bi_bc : bi ≠ bc) (ne_bi_bn : bi ≠ bn) (ne_bi_s4 : bi ≠ s4) (ne_bf_bp : bf ≠ bp) (ne_bf_bc : bf ≠ bc) (ne_bf_bn : bf ≠ bn) (ne_bf_s4 : bf ≠ s4) (ne_bp_bc : bp ≠ bc) (ne_bp_bn : bp ≠ bn) (ne_bp_s4 : bp ≠ s4) (ne_bc_bn : bc ≠ bn) (ne_bc_s4 : bc ≠ s4) (ne_bn_s4 : bn ≠ s4) (E_s4 : Exa Z hT s4 "[I") (hc1 : ¬ at_ < (0 : Int32)) (hc2 : ¬ (at_ + (1 : Int32)) < (0 : Int32)) (hc3 : ¬ (c_ - at_) < (0 : Int32)) (hc4 : at_.toNatClampNeg + (c_ - at_).toNatClampNeg ≤ (4 : Int32).toNatClampNeg) (hc5 : (at_ + (1 : Int32)).toNatClampNeg + (c_ - at_).toNatClampNeg ≤ (4 : Int32).toNatClampNeg) (hc6 : at_ < (4 : Int32)) (hc7 : ¬ c_ = (4 : Int32)) (hSL : SL.length = 4) (hc8 : at_.toNatClampNeg < ((own_bs SL).take (at_ + (1 : Int32)).toNatClampNeg ++ ((List.range (c_ - at_).toNatClampNeg).map fun i => (own_bs SL).getD (at_.toNatClampNeg + i) (.int (0 : Int32))) ++ (own_bs SL).drop ((at_ + (1 : Int32)).toNatClampNeg + (c_ - at_).toNatClampNeg)).length) (hcc : (c_ + (1 : Int32)) = c1_) (hfin : (((own_bs SL).take (at_ + (1 : Int32)).toNatClampNeg ++ ((List.range (c_ - at_).toNatClampNeg).map fun i => (own_bs SL).getD (at_.toNatClampNeg + i) (.int (0 : Int32))) ++ (own_bs SL).drop ((at_ + (1 : Int32)).toNatClampNeg + (c_ - at_).toNatClampNeg)).set at_.toNatClampNeg (.int sz)) = FIN) :
    ∃ s₂ o, Steps p.tables e below (T0.setTop (mkF m 66 #[vR a1, vI p2, vI p3, vI p4, vI at_, vR s4, vI c_, .unset] [])) s₂ ∧ s₂.status = .running ∧ Ended s₂ below o ∧ ∃ v L, o = .returned v ∧ own_Q4t Z a1 p2 p3 p4 bi bf bp bc bn ki kf kp kc kn IL FL PL NL CV s4 k4 c1_ sz FIN h0 n0 v s₂.heap L ∧ FrameEnd s o s₂ L ({ frames := 2, cells := 1, slots := 4, locals := 35 } : Room).cells ({ frames := 2, cells := 1, slots := 4, locals := 35 } : Room).slots := by
  obtain ⟨T1, X1, e1, st1⟩ := gF X0 hx hZ hown (ww hw 10 rfl) e0 F_size (g := (mkF m 67 #[vR a1, vI p2, vI p3, vI p4, vI at_, vR s4, vI c_, .unset] [iR a1])) rfl rfl (hb hby d4_67)
  obtain ⟨T2, X2, e2, st2⟩ := gF X1 hx hZ hown (ww hw 13 rfl) e1 F_items (g := (mkF m 71 #[vR a1, vI p2, vI p3, vI p4, vI at_, vR s4, vI c_, .unset] [iR a1, iI sz])) rfl rfl (hb hby d4_71)
  obtain ⟨cl3, Ar3, q3, S3, M3, H3, G3⟩ := id V_bi
  have hh4 : ¬ (sz = (16 : Int32)) := (fun q => absurd hz.2 (by rw [q]; decide))
  obtain ⟨T5, X5, e5, st5⟩ := gF X2 hx hZ hown (ww hw 10 rfl) e2 F_size (g := (mkF m 156 #[vR a1, vI p2, vI p3, vI p4, vI at_, vR s4, vI c_, .unset] [iR a1, iR a1])) rfl rfl (hb hby d4_156)
  obtain ⟨T6, h6, X6, e6, W6, st6⟩ := putF X5 hx hZ hown (host := "") (Or.inl (ww hw 10 rfl)) Via.refl e5 F_size E_a1 (Or.inl (ww hw 11 rfl)) (ww hw 2 rfl) (ty := .int) (by decide) rfl rfl (g := (mkF m 162 #[vR a1, vI p2, vI p3, vI p4, vI at_, vR s4, vI c_, .unset] [iI (sz + (1 : Int32)), iR a1, iI sz])) rfl rfl (hb hby d4_162)
  have Fw6 := F_size.same W6
  have K6 : Keep h0 h6 [a1, bi, bf, bp, bc, bn, s4] := Kt0.wr W6 (Or.inl (List.mem_of_getElem? (i := 0) rfl))
  have N6 := Fr.snoc X6 N0 g_a1
  have fk7 := (F_items.other W6 (Or.inr (slot_ne (Or.inl (ww hw 14 rfl)) (Or.inl (ww hw 11 rfl)) (by decide) (t := (.array .int)) (t' := .int) (by decide) (by decide))))
  obtain ⟨T8, X8, e8, st8⟩ := gF X6 hx hZ hown (ww hw 13 rfl) e6 fk7 (g := (mkF m 168 #[vR a1, vI p2, vI p3, vI p4, vI at_, vR s4, vI c_, vI sz] [iR a1])) rfl rfl (hb hby d4_168)
  have fk9 := (V_bi.other W6 (Ne.symm ne_a1_bi))
  obtain ⟨cl10, Ar10, q10, S10, M10, H10, G10⟩ := id fk9
  have hin11 := inb_of (j := sz) S10 hz
  obtain ⟨T12, h12, X12, e12, W12, st12⟩ := stI X8 hx hZ e8 Ar10 (j := sz) hin11 (g := (mkF m 174 #[vR a1, vI p2, vI p3, vI p4, vI at_, vR s4, vI c_, vI sz] [iI p3, iI sz, iR bi])) rfl rfl (hb hby d4_174)
  have V12r := Arv.set Ar10 q10 S10 M10 H10 G10 rfl W12 _ rfl (by rw [List.length_map, hIL]; exact own_in16 hz)
  have V12 : Arv Z h12 bi ki .int (16 : Int32) (own_bs (IL.set sz.toNatClampNeg p3)) (.int (0 : Int32)) := by rw [← own_bsSet]; exact V12r
  have K12 : Keep h0 h12 [a1, bi, bf, bp, bc, bn, s4] := K6.wr W12 (Or.inl (List.mem_of_getElem? (i := 1) rfl))
  have N12 := Fr.snoc X12 N6 g_bi
  have fk13 := ((F_sameEvents.other W6 (Or.inr (slot_ne (Or.inl (ww hw 17 rfl)) (Or.inl (ww hw 11 rfl)) (by decide) (t := (.array .boolean)) (t' := .int) (by decide) (by decide)))).other W12 (Or.inl ne_a1_bi))
  obtain ⟨T14, X14, e14, st14⟩ := gF X12 hx hZ hown (ww hw 16 rfl) e12 fk13 (g := (mkF m 176 #[vR a1, vI p2, vI p3, vI p4, vI at_, vR s4, vI c_, vI sz] [iR a1])) rfl rfl (hb hby d4_176)
  have fk15 := ((V_bf.other W6 (Ne.symm ne_a1_bf)).other W12 (Ne.symm ne_bi_bf))
  obtain ⟨cl16, Ar16, q16, S16, M16, H16, G16⟩ := id fk15
  have hin17 := inb_of (j := sz) S16 hz
  obtain ⟨T18, h18, X18, e18, W18, st18⟩ := stZ X14 hx hZ e14 Ar16 (j := sz) hin17 (g := (mkF m 182 #[vR a1, vI p2, vI p3, vI p4, vI at_, vR s4, vI c_, vI sz] [iI p4, iI sz, iR bf])) rfl rfl (hb hby d4_182)
  have V18r := Arv.set Ar16 q16 S16 M16 H16 G16 (fits_nar_bool _) W18 _ rfl (by rw [List.length_map, hFL]; exact own_in16 hz)
  have V18 : Arv Z h18 bf kf .boolean (16 : Int32) (own_bs (FL.set sz.toNatClampNeg p4)) (.int (0 : Int32)) := by rw [← own_bsSet]; rw [h4] at V18r; exact V18r
  have K18 : Keep h0 h18 [a1, bi, bf, bp, bc, bn, s4] := K12.wr W18 (Or.inl (List.mem_of_getElem? (i := 2) rfl))
  have N18 := Fr.snoc X18 N12 g_bf
  have fk19 := (((F_parents.other W6 (Or.inr (slot_ne (Or.inl (ww hw 19 rfl)) (Or.inl (ww hw 11 rfl)) (by decide) (t := (.array .int)) (t' := .int) (by decide) (by decide)))).other W12 (Or.inl ne_a1_bi)).other W18 (Or.inl ne_a1_bf))
  obtain ⟨T20, X20, e20, st20⟩ := gF X18 hx hZ hown (ww hw 18 rfl) e18 fk19 (g := (mkF m 184 #[vR a1, vI p2, vI p3, vI p4, vI at_, vR s4, vI c_, vI sz] [iR a1])) rfl rfl (hb hby d4_184)
  have fk21 := (((V_bp.other W6 (Ne.symm ne_a1_bp)).other W12 (Ne.symm ne_bi_bp)).other W18 (Ne.symm ne_bf_bp))
  obtain ⟨cl22, Ar22, q22, S22, M22, H22, G22⟩ := id fk21
  have hin23 := inb_of (j := sz) S22 hz
  obtain ⟨T24, h24, X24, e24, W24, st24⟩ := stI X20 hx hZ e20 Ar22 (j := sz) hin23 (g := (mkF m 190 #[vR a1, vI p2, vI p3, vI p4, vI at_, vR s4, vI c_, vI sz] [iI p2, iI sz, iR bp])) rfl rfl (hb hby d4_190)
  have V24r := Arv.set Ar22 q22 S22 M22 H22 G22 rfl W24 _ rfl (by rw [List.length_map, hPL]; exact own_in16 hz)
  have V24 : Arv Z h24 bp kp .int (16 : Int32) (own_bs (PL.set sz.toNatClampNeg p2)) (.int (0 : Int32)) := by rw [← own_bsSet]; exact V24r
  have K24 : Keep h0 h24 [a1, bi, bf, bp, bc, bn, s4] := K18.wr W24 (Or.inl (List.mem_of_getElem? (i := 3) rfl))
  have N24 := Fr.snoc X24 N18 g_bp
  have fk25 := ((((V_s4.other W6 (Ne.symm ne_a1_s4)).other W12 (Ne.symm ne_bi_s4)).other W18 (Ne.symm ne_bf_s4)).other W24 (Ne.symm ne_bp_s4))
  obtain ⟨cl26, Ar26, q26, S26, M26, H26, G26⟩ := id fk25
  obtain ⟨T27, h27, L27, X27, e27, N27, K27q, V27q, st27⟩ := cpA X24 hx hZ hown (ww hw 39 rfl) (ww hw 42 rfl) (ww hw 40 rfl) (ww hw 41 rfl) e24 fk25 fk25 (Or.inl ⟨rfl, rfl⟩) hc1 hc2 hc3 hc4 hc5 rfl (by rw [List.length_map, hSL]; exact hc5) N24 g_s4 (g := (mkF m 238 #[vR a1, vI p2, vI p3, vI p4, vI at_, vR s4, vI c_, vI sz] [iI (c_ - at_), iI (at_ + (1 : Int32)), iR s4, iI at_, iR s4])) rfl (by rw [hml]; rfl) rfl (hb hby d4_238) (by decide) (W := 0) (wz rfl) (by decide)
  have K27 : Keep h0 h27 [a1, bi, bf, bp, bc, bn, s4] := Keep.trans K24 K27q (allS (Or.inl (List.mem_of_getElem? (i := 6) rfl)) all0)
  have V27 : Arv Z h27 s4 k4 .int (4 : Int32) ((own_bs SL).take (at_ + (1 : Int32)).toNatClampNeg ++ ((List.range (c_ - at_).toNatClampNeg).map fun i => (own_bs SL).getD (at_.toNatClampNeg + i) (.int (0 : Int32))) ++ (own_bs SL).drop ((at_ + (1 : Int32)).toNatClampNeg + (c_ - at_).toNatClampNeg)) (.int (0 : Int32)) := V27q
  obtain ⟨cl28, Ar28, q28, S28, M28, H28, G28⟩ := id V27
  have hin29 := inb_of (j := at_) S28 ⟨hc1, hc6⟩
  obtain ⟨T30, h30, X30, e30, W30, st30⟩ := stI X27 hx hZ e27 Ar28 (j := at_) hin29 (g := (mkF m 247 #[vR a1, vI p2, vI p3, vI p4, vI at_, vR s4, vI c_, vI sz] [iI sz, iI at_, iR s4])) rfl rfl (hb hby d4_247)
  have V30 : Arv Z h30 s4 k4 .int (4 : Int32) (((own_bs SL).take (at_ + (1 : Int32)).toNatClampNeg ++ ((List.range (c_ - at_).toNatClampNeg).map fun i => (own_bs SL).getD (at_.toNatClampNeg + i) (.int (0 : Int32))) ++ (own_bs SL).drop ((at_ + (1 : Int32)).toNatClampNeg + (c_ - at_).toNatClampNeg)).set at_.toNatClampNeg (.int sz)) (.int (0 : Int32)) := Arv.set Ar28 q28 S28 M28 H28 G28 rfl W30 _ rfl hc8
  have K30 : Keep h0 h30 [a1, bi, bf, bp, bc, bn, s4] := K27.wr W30 (Or.inl (List.mem_of_getElem? (i := 6) rfl))
  have N30 := Fr.snoc X30 N27 g_s4
  have fk31 := ((((((F_children.other W6 (Or.inr (slot_ne (Or.inl (ww hw 23 rfl)) (Or.inl (ww hw 11 rfl)) (by decide) (t := (.array (.array .int))) (t' := .int) (by decide) (by decide)))).other W12 (Or.inl ne_a1_bi)).other W18 (Or.inl ne_a1_bf)).other W24 (Or.inl ne_a1_bp)).keep K27q (ninS ne_a1_s4 nin0)).other W30 (Or.inl ne_a1_s4))
  obtain ⟨T32, X32, e32, st32⟩ := gF X30 hx hZ hown (ww hw 22 rfl) e30 fk31 (g := (mkF m 249 #[vR a1, vI p2, vI p3, vI p4, vI at_, vR s4, vI c_, vI sz] [iR a1])) rfl rfl (hb hby d4_249)
  have fk33 := ((((((V_bc.other W6 (Ne.symm ne_a1_bc)).other W12 (Ne.symm ne_bi_bc)).other W18 (Ne.symm ne_bf_bc)).other W24 (Ne.symm ne_bp_bc)).keep K27q (ninS ne_bc_s4 nin0)).other W30 ne_bc_s4)
  obtain ⟨cl34, Ar34, q34, S34, M34, H34, G34⟩ := id fk33
  have hin35 := inb_of (j := p2) S34 hp
  have fk36 := ((((((E_s4.wr W6).wr W12).wr W18).wr W24).keep K27q).wr W30)
  obtain ⟨T37, h37, X37, e37, W37, st37⟩ := stR X32 hx hZ e32 Ar34 (j := p2) (v := (.ref s4)) hin35 rfl (Sto.ofVA Ar34 q34 O_bc (Ins.self fk36)) (g := (mkF m 255 #[vR a1, vI p2, vI p3, vI p4, vI at_, vR s4, vI c_, vI sz] [iR s4, iI p2, iR bc])) rfl rfl (hb hby d4_255)
  have V37 : Arv Z h37 bc kc (.array .int) (16 : Int32) (CV.set p2.toNatClampNeg (.ref s4)) .null := Arv.set Ar34 q34 S34 M34 H34 G34 rfl W37 _ rfl (by rw [hCV]; exact own_in16 hp)
  have K37 : Keep h0 h37 [a1, bi, bf, bp, bc, bn, s4] := K30.wr W37 (Or.inl (List.mem_of_getElem? (i := 4) rfl))
  have N37 := Fr.snoc X37 N30 g_bc
  have fk38 := (((((((F_childCounts.other W6 (Or.inr (slot_ne (Or.inl (ww hw 25 rfl)) (Or.inl (ww hw 11 rfl)) (by decide) (t := (.array .int)) (t' := .int) (by decide) (by decide)))).other W12 (Or.inl ne_a1_bi)).other W18 (Or.inl ne_a1_bf)).other W24 (Or.inl ne_a1_bp)).keep K27q (ninS ne_a1_s4 nin0)).other W30 (Or.inl ne_a1_s4)).other W37 (Or.inl ne_a1_bc))
  obtain ⟨T39, X39, e39, st39⟩ := gF X37 hx hZ hown (ww hw 24 rfl) e37 fk38 (g := (mkF m 257 #[vR a1, vI p2, vI p3, vI p4, vI at_, vR s4, vI c_, vI sz] [iR a1])) rfl rfl (hb hby d4_257)
  have fk40 := (((((((V_bn.other W6 (Ne.symm ne_a1_bn)).other W12 (Ne.symm ne_bi_bn)).other W18 (Ne.symm ne_bf_bn)).other W24 (Ne.symm ne_bp_bn)).keep K27q (ninS ne_bn_s4 nin0)).other W30 ne_bn_s4).other W37 (Ne.symm ne_bc_bn))
  obtain ⟨cl41, Ar41, q41, S41, M41, H41, G41⟩ := id fk40
  have hin42 := inb_of (j := p2) S41 hp
  obtain ⟨T43, h43, X43, e43, W43, st43⟩ := stI X39 hx hZ e39 Ar41 (j := p2) hin42 (g := (mkF m 265 #[vR a1, vI p2, vI p3, vI p4, vI at_, vR s4, vI c_, vI sz] [iI (c_ + (1 : Int32)), iI p2, iR bn])) rfl rfl (hb hby d4_265)
  have V43r := Arv.set Ar41 q41 S41 M41 H41 G41 rfl W43 _ rfl (by rw [List.length_map, hNL]; exact own_in16 hp)
  have V43 : Arv Z h43 bn kn .int (16 : Int32) (own_bs (NL.set p2.toNatClampNeg (c_ + (1 : Int32)))) (.int (0 : Int32)) := by rw [← own_bsSet]; exact V43r
  have K43 : Keep h0 h43 [a1, bi, bf, bp, bc, bn, s4] := K37.wr W43 (Or.inl (List.mem_of_getElem? (i := 5) rfl))
  have N43 := Fr.snoc X43 N37 g_bn
  obtain ⟨fs, hr, hrun, hended, hW, hsame⟩ := X43.leave (v := some (.int sz)) (fun h => by rw [hret] at h; cases h)
  have fk44 := ((((((((E_a1.wr W6).wr W12).wr W18).wr W24).keep K27q).wr W30).wr W37).wr W43)
  have fk45 := (((((((Fw6.other W12 (Or.inl ne_a1_bi)).other W18 (Or.inl ne_a1_bf)).other W24 (Or.inl ne_a1_bp)).keep K27q (ninS ne_a1_s4 nin0)).other W30 (Or.inl ne_a1_s4)).other W37 (Or.inl ne_a1_bc)).other W43 (Or.inl ne_a1_bn))
  have fk46 := (((((((fk7.other W12 (Or.inl ne_a1_bi)).other W18 (Or.inl ne_a1_bf)).other W24 (Or.inl ne_a1_bp)).keep K27q (ninS ne_a1_s4 nin0)).other W30 (Or.inl ne_a1_s4)).other W37 (Or.inl ne_a1_bc)).other W43 (Or.inl ne_a1_bn))
  have fk47 := ((((((V12.other W18 ne_bi_bf).other W24 ne_bi_bp).keep K27q (ninS ne_bi_s4 nin0)).other W30 ne_bi_s4).other W37 ne_bi_bc).other W43 ne_bi_bn)
  have fk48 := ((((((fk13.other W18 (Or.inl ne_a1_bf)).other W24 (Or.inl ne_a1_bp)).keep K27q (ninS ne_a1_s4 nin0)).other W30 (Or.inl ne_a1_s4)).other W37 (Or.inl ne_a1_bc)).other W43 (Or.inl ne_a1_bn))
  have fk49 := (((((V18.other W24 ne_bf_bp).keep K27q (ninS ne_bf_s4 nin0)).other W30 ne_bf_s4).other W37 ne_bf_bc).other W43 ne_bf_bn)
  have fk50 := (((((fk19.other W24 (Or.inl ne_a1_bp)).keep K27q (ninS ne_a1_s4 nin0)).other W30 (Or.inl ne_a1_s4)).other W37 (Or.inl ne_a1_bc)).other W43 (Or.inl ne_a1_bn))
  have fk51 := ((((V24.keep K27q (ninS ne_bp_s4 nin0)).other W30 ne_bp_s4).other W37 ne_bp_bc).other W43 ne_bp_bn)
  have fk52 := ((fk31.other W37 (Or.inl ne_a1_bc)).other W43 (Or.inl ne_a1_bn))
  have fk53 := (V37.other W43 ne_bc_bn)
  have fk54 := (fk38.other W43 (Or.inl ne_a1_bn))
  have fk55 := ((V30.other W37 (Ne.symm ne_bc_s4)).other W43 (Ne.symm ne_bn_s4))
  have fk56 := ((fk36.wr W37).wr W43)
  refine ⟨_, _, ?_, hrun, hended, _, _, rfl, ?_, ⟨_, rfl⟩, hW, hsame.mono (by decide) (by decide)⟩
  · refine XS.aloadN X0.here hx rfl (hb hby d4_66) rfl rfl ?_
    refine st1 _ ?_
    refine XS.aloadN X1.here hx rfl (hb hby d4_70) rfl rfl ?_
    refine st2 _ ?_
    refine X2.arraylength hx (by rw [e2]; exact Ar3.1) (State.isArrayOf_alike hZ.alike Ar3.2.1) (g := (mkF m 74 #[vR a1, vI p2, vI p3, vI p4, vI at_, vR s4, vI c_, .unset] [iR bi, iI sz])) rfl rfl (hb hby d4_74) _ ?_
    rw [len_of S3 M3]
    refine XS.icmpYes X2.here hx rfl (pc0 := 75) (pc' := 154) rfl (hb hby d4_75) rfl (feq hh4).2 (by decide) (by decide) ?_
    refine XS.aloadN X2.here hx rfl (hb hby d4_154) rfl rfl ?_
    refine XS.dup X2.here hx rfl (hb hby d4_155) rfl rfl ?_
    refine st5 _ ?_
    refine XS.dupX1 X5.here hx rfl (hb hby d4_159) rfl rfl rfl ?_
    refine XS.iconst X5.here hx rfl (hb hby d4_160) ?_
    refine XS.iadd X5.here hx rfl (hb hby d4_161) rfl ?_
    refine st6 _ ?_
    refine XS.istore X6.here hx rfl (hb hby d4_165) rfl (l' := #[vR a1, vI p2, vI p3, vI p4, vI at_, vR s4, vI c_, vI sz]) rfl ?_
    refine XS.aloadN X6.here hx rfl (hb hby d4_167) rfl rfl ?_
    refine st8 _ ?_
    refine XS.iload X8.here hx rfl (hb hby d4_171) rfl ?_
    refine XS.iloadN X8.here hx rfl (hb hby d4_173) rfl ?_
    refine st12 _ ?_
    refine XS.aloadN X12.here hx rfl (hb hby d4_175) rfl rfl ?_
    refine st14 _ ?_
    refine XS.iload X14.here hx rfl (hb hby d4_179) rfl ?_
    refine XS.iloadN X14.here hx rfl (hb hby d4_181) rfl ?_
    refine st18 _ ?_
    refine XS.aloadN X18.here hx rfl (hb hby d4_183) rfl rfl ?_
    refine st20 _ ?_
    refine XS.iload X20.here hx rfl (hb hby d4_187) rfl ?_
    refine XS.iloadN X20.here hx rfl (hb hby d4_189) rfl ?_
    refine st24 _ ?_
    refine XS.aload X24.here hx rfl (hb hby d4_191) rfl rfl ?_
    refine XS.ifnonnullYes X24.here hx rfl (pc0 := 193) (pc' := 204) rfl (hb hby d4_193) rfl (by decide) (by decide) ?_
    refine XS.iload X24.here hx rfl (hb hby d4_204) rfl ?_
    refine XS.aload X24.here hx rfl (hb hby d4_206) rfl rfl ?_
    refine X24.arraylength hx (by rw [e24]; exact Ar26.1) (State.isArrayOf_alike hZ.alike Ar26.2.1) (g := (mkF m 208 #[vR a1, vI p2, vI p3, vI p4, vI at_, vR s4, vI c_, vI sz] [iR s4, iI c_])) rfl rfl (hb hby d4_208) _ ?_
    rw [len_of S26 M26]
    refine XS.icmpYes X24.here hx rfl (pc0 := 209) (pc' := 223) rfl (hb hby d4_209) rfl (feq hc7).2 (by decide) (by decide) ?_
    refine XS.aload X24.here hx rfl (hb hby d4_223) rfl rfl ?_
    refine XS.iload X24.here hx rfl (hb hby d4_225) rfl ?_
    refine XS.aload X24.here hx rfl (hb hby d4_227) rfl rfl ?_
    refine XS.iload X24.here hx rfl (hb hby d4_229) rfl ?_
    refine XS.iconst X24.here hx rfl (hb hby d4_231) ?_
    refine XS.iadd X24.here hx rfl (hb hby d4_232) rfl ?_
    refine XS.iload X24.here hx rfl (hb hby d4_233) rfl ?_
    show SA T24 m 235 #[vR a1, vI p2, vI p3, vI p4, vI at_, vR s4, vI c_, vI sz] [iI c_, iI (at_ + (1 : Int32)), iR s4, iI at_, iR s4]
    refine XS.iload X24.here hx rfl (hb hby d4_235) rfl ?_
    refine XS.isub X24.here hx rfl (hb hby d4_237) rfl ?_
    refine st27 _ ?_
    refine XS.aload X27.here hx rfl (hb hby d4_241) rfl rfl ?_
    refine XS.iload X27.here hx rfl (hb hby d4_243) rfl ?_
    refine XS.iload X27.here hx rfl (hb hby d4_245) rfl ?_
    refine st30 _ ?_
    refine XS.aloadN X30.here hx rfl (hb hby d4_248) rfl rfl ?_
    refine st32 _ ?_
    refine XS.iloadN X32.here hx rfl (hb hby d4_252) rfl ?_
    refine XS.aload X32.here hx rfl (hb hby d4_253) rfl rfl ?_
    refine st37 _ ?_
    refine XS.aloadN X37.here hx rfl (hb hby d4_256) rfl rfl ?_
    refine st39 _ ?_
    refine XS.iloadN X39.here hx rfl (hb hby d4_260) rfl ?_
    refine XS.iload X39.here hx rfl (hb hby d4_261) rfl ?_
    refine XS.iconst X39.here hx rfl (hb hby d4_263) ?_
    refine XS.iadd X39.here hx rfl (hb hby d4_264) rfl ?_
    refine st43 _ ?_
    refine XS.iload X43.here hx rfl (hb hby d4_266) rfl ?_
    show Steps _ _ _ (T43.setTop (mkF m 268 #[vR a1, vI p2, vI p3, vI p4, vI at_, vR s4, vI c_, vI sz] [iI sz])) _
    exact retI X43 hx hret (hb hby d4_268) hr
  · show own_Q4t Z a1 p2 p3 p4 bi bf bp bc bn ki kf kp kc kn IL FL PL NL CV s4 k4 c1_ sz FIN h0 n0 _ T43.heap _
    rw [e43]
    exact ⟨rfl, N43, K43, fk44, fk45, fk46, fk47, fk48, fk49, fk50, fk51, fk52, fk53, fk54, (by rw [← hcc]; exact V43), (by rw [← hfin]; exact fk55), fk56⟩
theorem d4_0 : decode prog_23_method_3_code 0 = .ok (.aload_n 0, 1) := by decide +kernel
theorem d4_1 : decode prog_23_method_3_code 1 = .ok (.iload_n 1, 1) := by decide +kernel
theorem d4_2 : decode prog_23_method_3_code 2 = .ok (.iload_n 2, 1) := by decide +kernel
theorem d4_3 : decode prog_23_method_3_code 3 = .ok (.iload_n 3, 1) := by decide +kernel
theorem d4_4 : decode prog_23_method_3_code 4 = .ok (.invokevirtual 32, 3) := by decide +kernel
theorem d4_7 : decode prog_23_method_3_code 7 = .ok (.istore 4, 2) := by decide +kernel
theorem d4_9 : decode prog_23_method_3_code 9 = .ok (.aload_n 0, 1) := by decide +kernel
theorem d4_10 : decode prog_23_method_3_code 10 = .ok (.getfield 25, 3) := by decide +kernel
theorem d4_13 : decode prog_23_method_3_code 13 = .ok (.iload_n 1, 1) := by decide +kernel
theorem d4_14 : decode prog_23_method_3_code 14 = .ok (.aaload, 1) := by decide +kernel
theorem d4_15 : decode prog_23_method_3_code 15 = .ok (.astore 5, 2) := by decide +kernel
theorem d4_17 : decode prog_23_method_3_code 17 = .ok (.aload_n 0, 1) := by decide +kernel
theorem d4_18 : decode prog_23_method_3_code 18 = .ok (.getfield 29, 3) := by decide +kernel
theorem d4_21 : decode prog_23_method_3_code 21 = .ok (.iload_n 1, 1) := by decide +kernel
theorem d4_22 : decode prog_23_method_3_code 22 = .ok (.iaload, 1) := by decide +kernel
theorem d4_23 : decode prog_23_method_3_code 23 = .ok (.istore 6, 2) := by decide +kernel
theorem d4_25 : decode prog_23_method_3_code 25 = .ok (.iload 4, 2) := by decide +kernel
theorem d4_27 : decode prog_23_method_3_code 27 = .ok (.iload 6, 2) := by decide +kernel
theorem d4_29 : decode prog_23_method_3_code 29 = .ok (.if_icmp .ge 37, 3) := by decide +kernel
theorem d4_32 : decode prog_23_method_3_code 32 = .ok (.aload_n 0, 1) := by decide +kernel
theorem d4_33 : decode prog_23_method_3_code 33 = .ok (.getfield 13, 3) := by decide +kernel
theorem d4_36 : decode prog_23_method_3_code 36 = .ok (.aload 5, 2) := by decide +kernel
theorem d4_38 : decode prog_23_method_3_code 38 = .ok (.iload 4, 2) := by decide +kernel
theorem d4_40 : decode prog_23_method_3_code 40 = .ok (.iaload, 1) := by decide +kernel
theorem d4_41 : decode prog_23_method_3_code 41 = .ok (.iaload, 1) := by decide +kernel
theorem d4_42 : decode prog_23_method_3_code 42 = .ok (.iload_n 2, 1) := by decide +kernel
theorem d4_43 : decode prog_23_method_3_code 43 = .ok (.if_icmp .ne 23, 3) := by decide +kernel
theorem d4_46 : decode prog_23_method_3_code 46 = .ok (.aload_n 0, 1) := by decide +kernel
theorem d4_47 : decode prog_23_method_3_code 47 = .ok (.getfield 17, 3) := by decide +kernel
theorem d4_50 : decode prog_23_method_3_code 50 = .ok (.aload 5, 2) := by decide +kernel
theorem d4_52 : decode prog_23_method_3_code 52 = .ok (.iload 4, 2) := by decide +kernel
theorem d4_54 : decode prog_23_method_3_code 54 = .ok (.iaload, 1) := by decide +kernel
theorem d4_55 : decode prog_23_method_3_code 55 = .ok (.baload, 1) := by decide +kernel
theorem d4_56 : decode prog_23_method_3_code 56 = .ok (.iload_n 3, 1) := by decide +kernel
theorem d4_57 : decode prog_23_method_3_code 57 = .ok (.if_icmp .ne 9, 3) := by decide +kernel
theorem d4_60 : decode prog_23_method_3_code 60 = .ok (.aload 5, 2) := by decide +kernel
theorem d4_62 : decode prog_23_method_3_code 62 = .ok (.iload 4, 2) := by decide +kernel
theorem d4_64 : decode prog_23_method_3_code 64 = .ok (.iaload, 1) := by decide +kernel
theorem d4_65 : decode prog_23_method_3_code 65 = .ok (.ireturn, 1) := by decide +kernel
theorem ef_4_f10 (m : MethodId) (x0 : Addr) (x1 : Int32) (x2 : Int32) (x3 : Int32) : entryFrame m #[(.ref x0), (.int x1), (.int x2), (.int x3)] 8 = mkF m 0 #[.val (.ref x0), .val (.int x1), .val (.int x2), .val (.int x3), .unset, .unset, .unset, .unset] [] := by first | (simp [entryFrame, mkF, argsToLocals, Value.category]; done) | rfl
def Q4_f10 (Z : State) (a1 : Addr) (p2 : Int32) (p3 : Int32) (p4 : Int32) (bi bf bp bc bn : Addr) (ki kf kp kc kn : ClassId) (IL FL PL NL : List Int32) (CV : List Value) (s4 : Addr) (k4 : ClassId) (t0_ t1_ t2_ t3_ : Int32) (k0_ f0_ : Int32) (h0 : Heap) (v : Option Value) (h : Heap) (L : List Loc) : Prop := v = some (.int t0_) ∧ L = [] ∧ h = h0
theorem rm4_f10 (l : Launch) (Z : State) (a0 : Array Value) (hw : ∀ d ∈ tables_1, d.before a0 Z = true) (ws : List Jvm.Cond) (a1 : Addr) (p2 : Int32) (p3 : Int32) (p4 : Int32) (bi bf bp bc bn : Addr) (ki kf kp kc kn : ClassId) (IL FL PL NL : List Int32) (CV : List Value) (s4 : Addr) (k4 : ClassId) (t0_ t1_ t2_ t3_ : Int32) (k0_ f0_ : Int32) (h0 : Heap) (E_a1 : Exa Z h0 a1 "com/example/tidemine/tidemine/PatternTrie") (F_items : Fld Z h0 a1 "com/example/tidemine/tidemine/PatternTrie" "items" "[I" (.ref bi)) (V_bi : Arv Z h0 bi ki .int (16 : Int32) (own_bs IL) (.int (0 : Int32))) (F_sameEvents : Fld Z h0 a1 "com/example/tidemine/tidemine/PatternTrie" "sameEvents" "[Z" (.ref bf)) (V_bf : Arv Z h0 bf kf .boolean (16 : Int32) (own_bs FL) (.int (0 : Int32))) (F_parents : Fld Z h0 a1 "com/example/tidemine/tidemine/PatternTrie" "parents" "[I" (.ref bp)) (V_bp : Arv Z h0 bp kp .int (16 : Int32) (own_bs PL) (.int (0 : Int32))) (F_children : Fld Z h0 a1 "com/example/tidemine/tidemine/PatternTrie" "children" "[[I" (.ref bc)) (V_bc : Arv Z h0 bc kc (.array .int) (16 : Int32) CV .null) (F_childCounts : Fld Z h0 a1 "com/example/tidemine/tidemine/PatternTrie" "childCounts" "[I" (.ref bn)) (V_bn : Arv Z h0 bn kn .int (16 : Int32) (own_bs NL) (.int (0 : Int32))) (hp : ¬ p2 < (0 : Int32) ∧ p2 < (16 : Int32)) (hcv : CV.getD p2.toNatClampNeg .null = .ref s4) (hnc : NL.getD p2.toNatClampNeg 0 = (1 : Int32)) (V_s4 : Arv Z h0 s4 k4 .int (4 : Int32) [(.int t0_), (.int t1_), (.int t2_), (.int t3_)] (.int (0 : Int32))) (hb0 : ¬ t0_ < (0 : Int32) ∧ t0_ < (16 : Int32)) (hk0 : IL.getD t0_.toNatClampNeg 0 = k0_) (hf0 : FL.getD t0_.toNatClampNeg 0 = f0_) (hat : own_s_1 k0_ f0_ p3 p4 = (0 : Int32)) (hqk : k0_ = p3) (hqf : f0_ = p4) :
    MetFree l mn_3 (head1 (Jvm.Cond.code mn_3 prog_23_method_3_code 8 (some .int) :: ws) ({ frames := 2, cells := 1, slots := 4, locals := 35 } : Room)) (fun a U => a = #[(.ref a1), (.int p2), (.int p3), (.int p4)] ∧ Z.Warmed39 U.vm ∧ U.heap = h0) (fun _ _ _ _ _ => True) (fun _ U o U' => ∃ v L, o = .returned v ∧ Q4_f10 Z a1 p2 p3 p4 bi bf bp bc bn ki kf kp kc kn IL FL PL NL CV s4 k4 t0_ t1_ t2_ t3_ k0_ f0_ h0 v U'.heap L ∧ FrameEnd U o U' L ({ frames := 2, cells := 1, slots := 4, locals := 35 } : Room).cells ({ frames := 2, cells := 1, slots := 4, locals := 35 } : Room).slots) := by
  refine MetFree.of_bodySF (plainFor_of_name pn_2) hisR ?_
  intro p e s m args below meth c s₁ Bd hml0 hP hK
  obtain ⟨rfl, hZ, hh⟩ := hP
  have hx := Bd.exec
  have hby := Bd.bytes
  have hml : c.maxLocals = 8 := hml0
  have hown : s.vm.findClass "com/example/tidemine/tidemine/PatternTrie" = some m.cls := findClass_of_methodNamed Bd.named
  have hnm := (name_of_methodNamed Bd.named Bd.method).1
  have X0 : Stand p l e ({ frames := 2, cells := 1, slots := 4, locals := 35 } : Room) s m #[(.ref a1), (.int p2), (.int p3), (.int p4)] below meth c s₁ [] 0 0 := Stand.of_body Bd
  have e0 : s₁.heap = h0 := by rw [← hh, Bd.state]; rfl
  have pre0 : ∀ t, Steps p.tables e below (s₁.setTop (mkF m 0 #[.val (.ref a1), .val (.int p2), .val (.int p3), .val (.int p4), .unset, .unset, .unset, .unset] [])) t → Steps p.tables e below (s₁.setTop (entryFrame m #[(.ref a1), (.int p2), (.int p3), (.int p4)] 8)) t := fun t k => castTop (ef_4_f10 m a1 p2 p3 p4) k
  obtain ⟨cq1, q1, q1'⟩ := E_a1.cell
  obtain ⟨_, _, ⟨T1, L1, k1, n1⟩, -, X1, ⟨Lc1, hQ1, l1, y1, z1⟩, st1⟩ := X0.privateBack hx (y := mn_2) hown (mvT hZ (ww hw 35 rfl)) (mvT hZ (ww hw 36 rfl)) (own_selPriv (mvT hZ (ww hw 2 rfl)) (Cond.privateMethod_at (mvP hZ (ww hw 37 rfl) (args := #[]))) (mvT hZ (ww hw 36 rfl)) (by decide)) (Cond.privateMethod_at (mvP hZ (ww hw 37 rfl) (args := #[]))) (mvT hZ (ww hw 38 rfl)) (by decide) (backOf (W := 0) (rm5_1v l Z a0 hw [] a1 p2 p3 p4 bi bf bp bc bn ki kf kp kc kn IL FL PL NL CV s4 k4 t0_ t1_ t2_ t3_ k0_ f0_ (0 : Int32) h0 E_a1 F_children V_bc F_childCounts V_bn F_items V_bi F_sameEvents V_bf hp hcv hnc V_s4 hb0 hk0 hf0 hat) hZ (ww hw 38 rfl) (ww hw 3 rfl) (by decide) (by decide)) (g := (mkF m 4 #[vR a1, vI p2, vI p3, vI p4, .unset, .unset, .unset, .unset] [iI p4, iI p3, iI p2, iR a1])) rfl (by rw [hml]; rfl) (Steps.refl _) (a := a1) (by rw [e0]; exact q1) q1' (argsL := [(.int p2), (.int p3), (.int p4)]) (rest := []) (lenOf pd_2 rfl) rfl (wz rfl) (hb hby d4_4) (fun _ _ => ⟨rfl, e0, (by decide : 0 + 0 ≤ _), (by decide : 0 + 0 ≤ _)⟩)
  dsimp only [Pt.U, Pt.locs, Pt.cells, Pt.slots] at X1 l1 y1 z1 st1 hQ1
  subst l1 y1 z1
  obtain ⟨rfl, rfl, e1⟩ := hQ1
  try rw [List.append_nil] at X1
  obtain ⟨T2, X2, e2, st2⟩ := gF X1 hx hZ hown (ww hw 22 rfl) e1 F_children (g := (mkF m 10 #[vR a1, vI p2, vI p3, vI p4, vI 0, .unset, .unset, .unset] [iR a1])) rfl rfl (hb hby d4_10)
  obtain ⟨cl3, Ar3, q3, S3, M3, H3, G3⟩ := id V_bc
  have hin4 := inb_of (j := p2) S3 hp
  have hat5 : cl3.slots[(p2).toNatClampNeg]? = some (.ref s4) := Has.at H3 hin4 hcv
  obtain ⟨T6, X6, e6, st6⟩ := gF X2 hx hZ hown (ww hw 24 rfl) e2 F_childCounts (g := (mkF m 18 #[vR a1, vI p2, vI p3, vI p4, vI 0, vR s4, .unset, .unset] [iR a1])) rfl rfl (hb hby d4_18)
  obtain ⟨cl7, Ar7, q7, S7, M7, H7, G7⟩ := id V_bn
  have hin8 := inb_of (j := p2) S7 hp
  have hat9 : cl7.slots[(p2).toNatClampNeg]? = some (.int (1 : Int32)) := Has.at H7 hin8 (by rw [own_bsget, hnc])
  obtain ⟨T10, X10, e10, st10⟩ := gF X6 hx hZ hown (ww hw 13 rfl) e6 F_items (g := (mkF m 33 #[vR a1, vI p2, vI p3, vI p4, vI 0, vR s4, vI 1, .unset] [iR a1])) rfl rfl (hb hby d4_33)
  obtain ⟨cl11, Ar11, q11, S11, M11, H11, G11⟩ := id V_s4
  have hin12 := inb_of (j := (0 : Int32)) S11 ⟨by decide, by decide⟩
  obtain ⟨cl14, Ar14, q14, S14, M14, H14, G14⟩ := id V_bi
  have hin15 := inb_of (j := t0_) S14 hb0
  have hat16 : cl14.slots[(t0_).toNatClampNeg]? = some (.int k0_) := Has.at H14 hin15 (by rw [own_bsget, hk0])
  obtain ⟨T17, X17, e17, st17⟩ := gF X10 hx hZ hown (ww hw 16 rfl) e10 F_sameEvents (g := (mkF m 47 #[vR a1, vI p2, vI p3, vI p4, vI 0, vR s4, vI 1, .unset] [iR a1])) rfl rfl (hb hby d4_47)
  have hin18 := inb_of (j := (0 : Int32)) S11 ⟨by decide, by decide⟩
  obtain ⟨cl20, Ar20, q20, S20, M20, H20, G20⟩ := id V_bf
  have hin21 := inb_of (j := t0_) S20 hb0
  have hat22 : cl20.slots[(t0_).toNatClampNeg]? = some (.int f0_) := Has.at H20 hin21 (by rw [own_bsget, hf0])
  have hin23 := inb_of (j := (0 : Int32)) S11 ⟨by decide, by decide⟩
  obtain ⟨fs, hr, hrun, hended, hW, hsame⟩ := X17.leave (v := some (.int t0_)) (fun h => by rw [Bd.returns] at h; cases h)
  refine ⟨_, _, pre0 _ ?_, hrun, hended, _, _, rfl, ?_, ⟨_, rfl⟩, hW, hsame.mono (by decide) (by decide)⟩
  · refine XS.aloadN X0.here hx rfl (hb hby d4_0) rfl rfl ?_
    refine XS.iloadN X0.here hx rfl (hb hby d4_1) rfl ?_
    refine XS.iloadN X0.here hx rfl (hb hby d4_2) rfl ?_
    refine XS.iloadN X0.here hx rfl (hb hby d4_3) rfl ?_
    refine st1.trans ?_
    refine XS.istore X1.here hx rfl (hb hby d4_7) rfl (l' := #[vR a1, vI p2, vI p3, vI p4, vI 0, .unset, .unset, .unset]) rfl ?_
    refine XS.aloadN X1.here hx rfl (hb hby d4_9) rfl rfl ?_
    refine st2 _ ?_
    refine XS.iloadN X2.here hx rfl (hb hby d4_13) rfl ?_
    refine X2.aaload hx (j := p2) (v := (.ref s4)) (by rw [e2]; exact Ar3.1) (State.isArrayOf_alike hZ.alike Ar3.2.1) rfl Ar3.2.2 hin4 hat5 (g := (mkF m 14 #[vR a1, vI p2, vI p3, vI p4, vI 0, .unset, .unset, .unset] [iI p2, iR bc])) rfl rfl (hb hby d4_14) _ ?_
    refine XS.astore X2.here hx rfl (hb hby d4_15) rfl rfl (l' := #[vR a1, vI p2, vI p3, vI p4, vI 0, vR s4, .unset, .unset]) rfl ?_
    refine XS.aloadN X2.here hx rfl (hb hby d4_17) rfl rfl ?_
    refine st6 _ ?_
    refine XS.iloadN X6.here hx rfl (hb hby d4_21) rfl ?_
    refine X6.iaload hx (j := p2) (v := (.int (1 : Int32))) (by rw [e6]; exact Ar7.1) (State.isArrayOf_alike hZ.alike Ar7.2.1) Ar7.2.2 hin8 hat9 (g := (mkF m 22 #[vR a1, vI p2, vI p3, vI p4, vI 0, vR s4, .unset, .unset] [iI p2, iR bn])) rfl rfl (hb hby d4_22) _ ?_
    refine XS.istore X6.here hx rfl (hb hby d4_23) rfl (l' := #[vR a1, vI p2, vI p3, vI p4, vI 0, vR s4, vI 1, .unset]) rfl ?_
    refine XS.iload X6.here hx rfl (hb hby d4_25) rfl ?_
    refine XS.iload X6.here hx rfl (hb hby d4_27) rfl ?_
    refine XS.icmpNo X6.here hx rfl (hb hby d4_29) rfl (tlt (by decide : (0 : Int32) < (1 : Int32))).2.1 ?_
    refine XS.aloadN X6.here hx rfl (hb hby d4_32) rfl rfl ?_
    refine st10 _ ?_
    refine XS.aload X10.here hx rfl (hb hby d4_36) rfl rfl ?_
    refine XS.iload X10.here hx rfl (hb hby d4_38) rfl ?_
    refine X10.iaload hx (j := (0 : Int32)) (v := (.int t0_)) (by rw [e10]; exact Ar11.1) (State.isArrayOf_alike hZ.alike Ar11.2.1) Ar11.2.2 hin12 (Has.at H11 hin12 rfl) (g := (mkF m 40 #[vR a1, vI p2, vI p3, vI p4, vI 0, vR s4, vI 1, .unset] [iI 0, iR s4, iR bi])) rfl rfl (hb hby d4_40) _ ?_
    refine X10.iaload hx (j := t0_) (v := (.int k0_)) (by rw [e10]; exact Ar14.1) (State.isArrayOf_alike hZ.alike Ar14.2.1) Ar14.2.2 hin15 hat16 (g := (mkF m 41 #[vR a1, vI p2, vI p3, vI p4, vI 0, vR s4, vI 1, .unset] [iI t0_, iR bi])) rfl rfl (hb hby d4_41) _ ?_
    refine XS.iloadN X10.here hx rfl (hb hby d4_42) rfl ?_
    refine XS.icmpNo X10.here hx rfl (hb hby d4_43) rfl (teq hqk).2 ?_
    refine XS.aloadN X10.here hx rfl (hb hby d4_46) rfl rfl ?_
    refine st17 _ ?_
    refine XS.aload X17.here hx rfl (hb hby d4_50) rfl rfl ?_
    refine XS.iload X17.here hx rfl (hb hby d4_52) rfl ?_
    refine X17.iaload hx (j := (0 : Int32)) (v := (.int t0_)) (by rw [e17]; exact Ar11.1) (State.isArrayOf_alike hZ.alike Ar11.2.1) Ar11.2.2 hin18 (Has.at H11 hin18 rfl) (g := (mkF m 54 #[vR a1, vI p2, vI p3, vI p4, vI 0, vR s4, vI 1, .unset] [iI 0, iR s4, iR bf])) rfl rfl (hb hby d4_54) _ ?_
    refine X17.baloadBooleans hx (j := t0_) (v := (.int f0_)) (by rw [e17]; exact Ar20.1) (State.isArrayOf_alike hZ.alike Ar20.2.1) Ar20.2.2 hin21 hat22 (g := (mkF m 55 #[vR a1, vI p2, vI p3, vI p4, vI 0, vR s4, vI 1, .unset] [iI t0_, iR bf])) rfl rfl (hb hby d4_55) _ ?_
    refine XS.iloadN X17.here hx rfl (hb hby d4_56) rfl ?_
    refine XS.icmpNo X17.here hx rfl (hb hby d4_57) rfl (teq hqf).2 ?_
    refine XS.aload X17.here hx rfl (hb hby d4_60) rfl rfl ?_
    refine XS.iload X17.here hx rfl (hb hby d4_62) rfl ?_
    refine X17.iaload hx (j := (0 : Int32)) (v := (.int t0_)) (by rw [e17]; exact Ar11.1) (State.isArrayOf_alike hZ.alike Ar11.2.1) Ar11.2.2 hin23 (Has.at H11 hin23 rfl) (g := (mkF m 64 #[vR a1, vI p2, vI p3, vI p4, vI 0, vR s4, vI 1, .unset] [iI 0, iR s4])) rfl rfl (hb hby d4_64) _ ?_
    show Steps _ _ _ (T17.setTop (mkF m 65 #[vR a1, vI p2, vI p3, vI p4, vI 0, vR s4, vI 1, .unset] [iI t0_])) _
    exact retI X17 hx Bd.returns (hb hby d4_65) hr
  · show Q4_f10 Z a1 p2 p3 p4 bi bf bp bc bn ki kf kp kc kn IL FL PL NL CV s4 k4 t0_ t1_ t2_ t3_ k0_ f0_ h0 _ T17.heap _
    rw [e17]
    exact ⟨rfl, rfl, rfl⟩
theorem ef_4_f20 (m : MethodId) (x0 : Addr) (x1 : Int32) (x2 : Int32) (x3 : Int32) : entryFrame m #[(.ref x0), (.int x1), (.int x2), (.int x3)] 8 = mkF m 0 #[.val (.ref x0), .val (.int x1), .val (.int x2), .val (.int x3), .unset, .unset, .unset, .unset] [] := by first | (simp [entryFrame, mkF, argsToLocals, Value.category]; done) | rfl
def Q4_f20 (Z : State) (a1 : Addr) (p2 : Int32) (p3 : Int32) (p4 : Int32) (bi bf bp bc bn : Addr) (ki kf kp kc kn : ClassId) (IL FL PL NL : List Int32) (CV : List Value) (s4 : Addr) (k4 : ClassId) (t0_ t1_ t2_ t3_ : Int32) (k0_ f0_ k1_ f1_ : Int32) (h0 : Heap) (v : Option Value) (h : Heap) (L : List Loc) : Prop := v = some (.int t0_) ∧ L = [] ∧ h = h0
theorem rm4_f20 (l : Launch) (Z : State) (a0 : Array Value) (hw : ∀ d ∈ tables_1, d.before a0 Z = true) (ws : List Jvm.Cond) (a1 : Addr) (p2 : Int32) (p3 : Int32) (p4 : Int32) (bi bf bp bc bn : Addr) (ki kf kp kc kn : ClassId) (IL FL PL NL : List Int32) (CV : List Value) (s4 : Addr) (k4 : ClassId) (t0_ t1_ t2_ t3_ : Int32) (k0_ f0_ k1_ f1_ : Int32) (h0 : Heap) (E_a1 : Exa Z h0 a1 "com/example/tidemine/tidemine/PatternTrie") (F_items : Fld Z h0 a1 "com/example/tidemine/tidemine/PatternTrie" "items" "[I" (.ref bi)) (V_bi : Arv Z h0 bi ki .int (16 : Int32) (own_bs IL) (.int (0 : Int32))) (F_sameEvents : Fld Z h0 a1 "com/example/tidemine/tidemine/PatternTrie" "sameEvents" "[Z" (.ref bf)) (V_bf : Arv Z h0 bf kf .boolean (16 : Int32) (own_bs FL) (.int (0 : Int32))) (F_parents : Fld Z h0 a1 "com/example/tidemine/tidemine/PatternTrie" "parents" "[I" (.ref bp)) (V_bp : Arv Z h0 bp kp .int (16 : Int32) (own_bs PL) (.int (0 : Int32))) (F_children : Fld Z h0 a1 "com/example/tidemine/tidemine/PatternTrie" "children" "[[I" (.ref bc)) (V_bc : Arv Z h0 bc kc (.array .int) (16 : Int32) CV .null) (F_childCounts : Fld Z h0 a1 "com/example/tidemine/tidemine/PatternTrie" "childCounts" "[I" (.ref bn)) (V_bn : Arv Z h0 bn kn .int (16 : Int32) (own_bs NL) (.int (0 : Int32))) (hp : ¬ p2 < (0 : Int32) ∧ p2 < (16 : Int32)) (hcv : CV.getD p2.toNatClampNeg .null = .ref s4) (hnc : NL.getD p2.toNatClampNeg 0 = (2 : Int32)) (V_s4 : Arv Z h0 s4 k4 .int (4 : Int32) [(.int t0_), (.int t1_), (.int t2_), (.int t3_)] (.int (0 : Int32))) (hb0 : ¬ t0_ < (0 : Int32) ∧ t0_ < (16 : Int32)) (hk0 : IL.getD t0_.toNatClampNeg 0 = k0_) (hf0 : FL.getD t0_.toNatClampNeg 0 = f0_) (hb1 : ¬ t1_ < (0 : Int32) ∧ t1_ < (16 : Int32)) (hk1 : IL.getD t1_.toNatClampNeg 0 = k1_) (hf1 : FL.getD t1_.toNatClampNeg 0 = f1_) (hat : own_s_2 k0_ f0_ k1_ f1_ p3 p4 = (0 : Int32)) (hqk : k0_ = p3) (hqf : f0_ = p4) :
    MetFree l mn_3 (head1 (Jvm.Cond.code mn_3 prog_23_method_3_code 8 (some .int) :: ws) ({ frames := 2, cells := 1, slots := 4, locals := 35 } : Room)) (fun a U => a = #[(.ref a1), (.int p2), (.int p3), (.int p4)] ∧ Z.Warmed39 U.vm ∧ U.heap = h0) (fun _ _ _ _ _ => True) (fun _ U o U' => ∃ v L, o = .returned v ∧ Q4_f20 Z a1 p2 p3 p4 bi bf bp bc bn ki kf kp kc kn IL FL PL NL CV s4 k4 t0_ t1_ t2_ t3_ k0_ f0_ k1_ f1_ h0 v U'.heap L ∧ FrameEnd U o U' L ({ frames := 2, cells := 1, slots := 4, locals := 35 } : Room).cells ({ frames := 2, cells := 1, slots := 4, locals := 35 } : Room).slots) := by
  refine MetFree.of_bodySF (plainFor_of_name pn_2) hisR ?_
  intro p e s m args below meth c s₁ Bd hml0 hP hK
  obtain ⟨rfl, hZ, hh⟩ := hP
  have hx := Bd.exec
  have hby := Bd.bytes
  have hml : c.maxLocals = 8 := hml0
  have hown : s.vm.findClass "com/example/tidemine/tidemine/PatternTrie" = some m.cls := findClass_of_methodNamed Bd.named
  have hnm := (name_of_methodNamed Bd.named Bd.method).1
  have X0 : Stand p l e ({ frames := 2, cells := 1, slots := 4, locals := 35 } : Room) s m #[(.ref a1), (.int p2), (.int p3), (.int p4)] below meth c s₁ [] 0 0 := Stand.of_body Bd
  have e0 : s₁.heap = h0 := by rw [← hh, Bd.state]; rfl
  have pre0 : ∀ t, Steps p.tables e below (s₁.setTop (mkF m 0 #[.val (.ref a1), .val (.int p2), .val (.int p3), .val (.int p4), .unset, .unset, .unset, .unset] [])) t → Steps p.tables e below (s₁.setTop (entryFrame m #[(.ref a1), (.int p2), (.int p3), (.int p4)] 8)) t := fun t k => castTop (ef_4_f20 m a1 p2 p3 p4) k
  obtain ⟨cq1, q1, q1'⟩ := E_a1.cell
  obtain ⟨_, _, ⟨T1, L1, k1, n1⟩, -, X1, ⟨Lc1, hQ1, l1, y1, z1⟩, st1⟩ := X0.privateBack hx (y := mn_2) hown (mvT hZ (ww hw 35 rfl)) (mvT hZ (ww hw 36 rfl)) (own_selPriv (mvT hZ (ww hw 2 rfl)) (Cond.privateMethod_at (mvP hZ (ww hw 37 rfl) (args := #[]))) (mvT hZ (ww hw 36 rfl)) (by decide)) (Cond.privateMethod_at (mvP hZ (ww hw 37 rfl) (args := #[]))) (mvT hZ (ww hw 38 rfl)) (by decide) (backOf (W := 0) (rm5_2v l Z a0 hw [] a1 p2 p3 p4 bi bf bp bc bn ki kf kp kc kn IL FL PL NL CV s4 k4 t0_ t1_ t2_ t3_ k0_ f0_ k1_ f1_ (0 : Int32) h0 E_a1 F_children V_bc F_childCounts V_bn F_items V_bi F_sameEvents V_bf hp hcv hnc V_s4 hb0 hk0 hf0 hb1 hk1 hf1 hat) hZ (ww hw 38 rfl) (ww hw 3 rfl) (by decide) (by decide)) (g := (mkF m 4 #[vR a1, vI p2, vI p3, vI p4, .unset, .unset, .unset, .unset] [iI p4, iI p3, iI p2, iR a1])) rfl (by rw [hml]; rfl) (Steps.refl _) (a := a1) (by rw [e0]; exact q1) q1' (argsL := [(.int p2), (.int p3), (.int p4)]) (rest := []) (lenOf pd_2 rfl) rfl (wz rfl) (hb hby d4_4) (fun _ _ => ⟨rfl, e0, (by decide : 0 + 0 ≤ _), (by decide : 0 + 0 ≤ _)⟩)
  dsimp only [Pt.U, Pt.locs, Pt.cells, Pt.slots] at X1 l1 y1 z1 st1 hQ1
  subst l1 y1 z1
  obtain ⟨rfl, rfl, e1⟩ := hQ1
  try rw [List.append_nil] at X1
  obtain ⟨T2, X2, e2, st2⟩ := gF X1 hx hZ hown (ww hw 22 rfl) e1 F_children (g := (mkF m 10 #[vR a1, vI p2, vI p3, vI p4, vI 0, .unset, .unset, .unset] [iR a1])) rfl rfl (hb hby d4_10)
  obtain ⟨cl3, Ar3, q3, S3, M3, H3, G3⟩ := id V_bc
  have hin4 := inb_of (j := p2) S3 hp
  have hat5 : cl3.slots[(p2).toNatClampNeg]? = some (.ref s4) := Has.at H3 hin4 hcv
  obtain ⟨T6, X6, e6, st6⟩ := gF X2 hx hZ hown (ww hw 24 rfl) e2 F_childCounts (g := (mkF m 18 #[vR a1, vI p2, vI p3, vI p4, vI 0, vR s4, .unset, .unset] [iR a1])) rfl rfl (hb hby d4_18)
  obtain ⟨cl7, Ar7, q7, S7, M7, H7, G7⟩ := id V_bn
  have hin8 := inb_of (j := p2) S7 hp
  have hat9 : cl7.slots[(p2).toNatClampNeg]? = some (.int (2 : Int32)) := Has.at H7 hin8 (by rw [own_bsget, hnc])
  obtain ⟨T10, X10, e10, st10⟩ := gF X6 hx hZ hown (ww hw 13 rfl) e6 F_items (g := (mkF m 33 #[vR a1, vI p2, vI p3, vI p4, vI 0, vR s4, vI 2, .unset] [iR a1])) rfl rfl (hb hby d4_33)
  obtain ⟨cl11, Ar11, q11, S11, M11, H11, G11⟩ := id V_s4
  have hin12 := inb_of (j := (0 : Int32)) S11 ⟨by decide, by decide⟩
  obtain ⟨cl14, Ar14, q14, S14, M14, H14, G14⟩ := id V_bi
  have hin15 := inb_of (j := t0_) S14 hb0
  have hat16 : cl14.slots[(t0_).toNatClampNeg]? = some (.int k0_) := Has.at H14 hin15 (by rw [own_bsget, hk0])
  obtain ⟨T17, X17, e17, st17⟩ := gF X10 hx hZ hown (ww hw 16 rfl) e10 F_sameEvents (g := (mkF m 47 #[vR a1, vI p2, vI p3, vI p4, vI 0, vR s4, vI 2, .unset] [iR a1])) rfl rfl (hb hby d4_47)
  have hin18 := inb_of (j := (0 : Int32)) S11 ⟨by decide, by decide⟩
  obtain ⟨cl20, Ar20, q20, S20, M20, H20, G20⟩ := id V_bf
  have hin21 := inb_of (j := t0_) S20 hb0
  have hat22 : cl20.slots[(t0_).toNatClampNeg]? = some (.int f0_) := Has.at H20 hin21 (by rw [own_bsget, hf0])
  have hin23 := inb_of (j := (0 : Int32)) S11 ⟨by decide, by decide⟩
  obtain ⟨fs, hr, hrun, hended, hW, hsame⟩ := X17.leave (v := some (.int t0_)) (fun h => by rw [Bd.returns] at h; cases h)
  refine ⟨_, _, pre0 _ ?_, hrun, hended, _, _, rfl, ?_, ⟨_, rfl⟩, hW, hsame.mono (by decide) (by decide)⟩
  · refine XS.aloadN X0.here hx rfl (hb hby d4_0) rfl rfl ?_
    refine XS.iloadN X0.here hx rfl (hb hby d4_1) rfl ?_
    refine XS.iloadN X0.here hx rfl (hb hby d4_2) rfl ?_
    refine XS.iloadN X0.here hx rfl (hb hby d4_3) rfl ?_
    refine st1.trans ?_
    refine XS.istore X1.here hx rfl (hb hby d4_7) rfl (l' := #[vR a1, vI p2, vI p3, vI p4, vI 0, .unset, .unset, .unset]) rfl ?_
    refine XS.aloadN X1.here hx rfl (hb hby d4_9) rfl rfl ?_
    refine st2 _ ?_
    refine XS.iloadN X2.here hx rfl (hb hby d4_13) rfl ?_
    refine X2.aaload hx (j := p2) (v := (.ref s4)) (by rw [e2]; exact Ar3.1) (State.isArrayOf_alike hZ.alike Ar3.2.1) rfl Ar3.2.2 hin4 hat5 (g := (mkF m 14 #[vR a1, vI p2, vI p3, vI p4, vI 0, .unset, .unset, .unset] [iI p2, iR bc])) rfl rfl (hb hby d4_14) _ ?_
    refine XS.astore X2.here hx rfl (hb hby d4_15) rfl rfl (l' := #[vR a1, vI p2, vI p3, vI p4, vI 0, vR s4, .unset, .unset]) rfl ?_
    refine XS.aloadN X2.here hx rfl (hb hby d4_17) rfl rfl ?_
    refine st6 _ ?_
    refine XS.iloadN X6.here hx rfl (hb hby d4_21) rfl ?_
    refine X6.iaload hx (j := p2) (v := (.int (2 : Int32))) (by rw [e6]; exact Ar7.1) (State.isArrayOf_alike hZ.alike Ar7.2.1) Ar7.2.2 hin8 hat9 (g := (mkF m 22 #[vR a1, vI p2, vI p3, vI p4, vI 0, vR s4, .unset, .unset] [iI p2, iR bn])) rfl rfl (hb hby d4_22) _ ?_
    refine XS.istore X6.here hx rfl (hb hby d4_23) rfl (l' := #[vR a1, vI p2, vI p3, vI p4, vI 0, vR s4, vI 2, .unset]) rfl ?_
    refine XS.iload X6.here hx rfl (hb hby d4_25) rfl ?_
    refine XS.iload X6.here hx rfl (hb hby d4_27) rfl ?_
    refine XS.icmpNo X6.here hx rfl (hb hby d4_29) rfl (tlt (by decide : (0 : Int32) < (2 : Int32))).2.1 ?_
    refine XS.aloadN X6.here hx rfl (hb hby d4_32) rfl rfl ?_
    refine st10 _ ?_
    refine XS.aload X10.here hx rfl (hb hby d4_36) rfl rfl ?_
    refine XS.iload X10.here hx rfl (hb hby d4_38) rfl ?_
    refine X10.iaload hx (j := (0 : Int32)) (v := (.int t0_)) (by rw [e10]; exact Ar11.1) (State.isArrayOf_alike hZ.alike Ar11.2.1) Ar11.2.2 hin12 (Has.at H11 hin12 rfl) (g := (mkF m 40 #[vR a1, vI p2, vI p3, vI p4, vI 0, vR s4, vI 2, .unset] [iI 0, iR s4, iR bi])) rfl rfl (hb hby d4_40) _ ?_
    refine X10.iaload hx (j := t0_) (v := (.int k0_)) (by rw [e10]; exact Ar14.1) (State.isArrayOf_alike hZ.alike Ar14.2.1) Ar14.2.2 hin15 hat16 (g := (mkF m 41 #[vR a1, vI p2, vI p3, vI p4, vI 0, vR s4, vI 2, .unset] [iI t0_, iR bi])) rfl rfl (hb hby d4_41) _ ?_
    refine XS.iloadN X10.here hx rfl (hb hby d4_42) rfl ?_
    refine XS.icmpNo X10.here hx rfl (hb hby d4_43) rfl (teq hqk).2 ?_
    refine XS.aloadN X10.here hx rfl (hb hby d4_46) rfl rfl ?_
    refine st17 _ ?_
    refine XS.aload X17.here hx rfl (hb hby d4_50) rfl rfl ?_
    refine XS.iload X17.here hx rfl (hb hby d4_52) rfl ?_
    refine X17.iaload hx (j := (0 : Int32)) (v := (.int t0_)) (by rw [e17]; exact Ar11.1) (State.isArrayOf_alike hZ.alike Ar11.2.1) Ar11.2.2 hin18 (Has.at H11 hin18 rfl) (g := (mkF m 54 #[vR a1, vI p2, vI p3, vI p4, vI 0, vR s4, vI 2, .unset] [iI 0, iR s4, iR bf])) rfl rfl (hb hby d4_54) _ ?_
    refine X17.baloadBooleans hx (j := t0_) (v := (.int f0_)) (by rw [e17]; exact Ar20.1) (State.isArrayOf_alike hZ.alike Ar20.2.1) Ar20.2.2 hin21 hat22 (g := (mkF m 55 #[vR a1, vI p2, vI p3, vI p4, vI 0, vR s4, vI 2, .unset] [iI t0_, iR bf])) rfl rfl (hb hby d4_55) _ ?_
    refine XS.iloadN X17.here hx rfl (hb hby d4_56) rfl ?_
    refine XS.icmpNo X17.here hx rfl (hb hby d4_57) rfl (teq hqf).2 ?_
    refine XS.aload X17.here hx rfl (hb hby d4_60) rfl rfl ?_
    refine XS.iload X17.here hx rfl (hb hby d4_62) rfl ?_
    refine X17.iaload hx (j := (0 : Int32)) (v := (.int t0_)) (by rw [e17]; exact Ar11.1) (State.isArrayOf_alike hZ.alike Ar11.2.1) Ar11.2.2 hin23 (Has.at H11 hin23 rfl) (g := (mkF m 64 #[vR a1, vI p2, vI p3, vI p4, vI 0, vR s4, vI 2, .unset] [iI 0, iR s4])) rfl rfl (hb hby d4_64) _ ?_
    show Steps _ _ _ (T17.setTop (mkF m 65 #[vR a1, vI p2, vI p3, vI p4, vI 0, vR s4, vI 2, .unset] [iI t0_])) _
    exact retI X17 hx Bd.returns (hb hby d4_65) hr
  · show Q4_f20 Z a1 p2 p3 p4 bi bf bp bc bn ki kf kp kc kn IL FL PL NL CV s4 k4 t0_ t1_ t2_ t3_ k0_ f0_ k1_ f1_ h0 _ T17.heap _
    rw [e17]
    exact ⟨rfl, rfl, rfl⟩
theorem ef_4_f21 (m : MethodId) (x0 : Addr) (x1 : Int32) (x2 : Int32) (x3 : Int32) : entryFrame m #[(.ref x0), (.int x1), (.int x2), (.int x3)] 8 = mkF m 0 #[.val (.ref x0), .val (.int x1), .val (.int x2), .val (.int x3), .unset, .unset, .unset, .unset] [] := by first | (simp [entryFrame, mkF, argsToLocals, Value.category]; done) | rfl
def Q4_f21 (Z : State) (a1 : Addr) (p2 : Int32) (p3 : Int32) (p4 : Int32) (bi bf bp bc bn : Addr) (ki kf kp kc kn : ClassId) (IL FL PL NL : List Int32) (CV : List Value) (s4 : Addr) (k4 : ClassId) (t0_ t1_ t2_ t3_ : Int32) (k0_ f0_ k1_ f1_ : Int32) (h0 : Heap) (v : Option Value) (h : Heap) (L : List Loc) : Prop := v = some (.int t1_) ∧ L = [] ∧ h = h0
theorem rm4_f21 (l : Launch) (Z : State) (a0 : Array Value) (hw : ∀ d ∈ tables_1, d.before a0 Z = true) (ws : List Jvm.Cond) (a1 : Addr) (p2 : Int32) (p3 : Int32) (p4 : Int32) (bi bf bp bc bn : Addr) (ki kf kp kc kn : ClassId) (IL FL PL NL : List Int32) (CV : List Value) (s4 : Addr) (k4 : ClassId) (t0_ t1_ t2_ t3_ : Int32) (k0_ f0_ k1_ f1_ : Int32) (h0 : Heap) (E_a1 : Exa Z h0 a1 "com/example/tidemine/tidemine/PatternTrie") (F_items : Fld Z h0 a1 "com/example/tidemine/tidemine/PatternTrie" "items" "[I" (.ref bi)) (V_bi : Arv Z h0 bi ki .int (16 : Int32) (own_bs IL) (.int (0 : Int32))) (F_sameEvents : Fld Z h0 a1 "com/example/tidemine/tidemine/PatternTrie" "sameEvents" "[Z" (.ref bf)) (V_bf : Arv Z h0 bf kf .boolean (16 : Int32) (own_bs FL) (.int (0 : Int32))) (F_parents : Fld Z h0 a1 "com/example/tidemine/tidemine/PatternTrie" "parents" "[I" (.ref bp)) (V_bp : Arv Z h0 bp kp .int (16 : Int32) (own_bs PL) (.int (0 : Int32))) (F_children : Fld Z h0 a1 "com/example/tidemine/tidemine/PatternTrie" "children" "[[I" (.ref bc)) (V_bc : Arv Z h0 bc kc (.array .int) (16 : Int32) CV .null) (F_childCounts : Fld Z h0 a1 "com/example/tidemine/tidemine/PatternTrie" "childCounts" "[I" (.ref bn)) (V_bn : Arv Z h0 bn kn .int (16 : Int32) (own_bs NL) (.int (0 : Int32))) (hp : ¬ p2 < (0 : Int32) ∧ p2 < (16 : Int32)) (hcv : CV.getD p2.toNatClampNeg .null = .ref s4) (hnc : NL.getD p2.toNatClampNeg 0 = (2 : Int32)) (V_s4 : Arv Z h0 s4 k4 .int (4 : Int32) [(.int t0_), (.int t1_), (.int t2_), (.int t3_)] (.int (0 : Int32))) (hb0 : ¬ t0_ < (0 : Int32) ∧ t0_ < (16 : Int32)) (hk0 : IL.getD t0_.toNatClampNeg 0 = k0_) (hf0 : FL.getD t0_.toNatClampNeg 0 = f0_) (hb1 : ¬ t1_ < (0 : Int32) ∧ t1_ < (16 : Int32)) (hk1 : IL.getD t1_.toNatClampNeg 0 = k1_) (hf1 : FL.getD t1_.toNatClampNeg 0 = f1_) (hat : own_s_2 k0_ f0_ k1_ f1_ p3 p4 = (1 : Int32)) (hqk : k1_ = p3) (hqf : f1_ = p4) :
    MetFree l mn_3 (head1 (Jvm.Cond.code mn_3 prog_23_method_3_code 8 (some .int) :: ws) ({ frames := 2, cells := 1, slots := 4, locals := 35 } : Room)) (fun a U => a = #[(.ref a1), (.int p2), (.int p3), (.int p4)] ∧ Z.Warmed39 U.vm ∧ U.heap = h0) (fun _ _ _ _ _ => True) (fun _ U o U' => ∃ v L, o = .returned v ∧ Q4_f21 Z a1 p2 p3 p4 bi bf bp bc bn ki kf kp kc kn IL FL PL NL CV s4 k4 t0_ t1_ t2_ t3_ k0_ f0_ k1_ f1_ h0 v U'.heap L ∧ FrameEnd U o U' L ({ frames := 2, cells := 1, slots := 4, locals := 35 } : Room).cells ({ frames := 2, cells := 1, slots := 4, locals := 35 } : Room).slots) := by
  refine MetFree.of_bodySF (plainFor_of_name pn_2) hisR ?_
  intro p e s m args below meth c s₁ Bd hml0 hP hK
  obtain ⟨rfl, hZ, hh⟩ := hP
  have hx := Bd.exec
  have hby := Bd.bytes
  have hml : c.maxLocals = 8 := hml0
  have hown : s.vm.findClass "com/example/tidemine/tidemine/PatternTrie" = some m.cls := findClass_of_methodNamed Bd.named
  have hnm := (name_of_methodNamed Bd.named Bd.method).1
  have X0 : Stand p l e ({ frames := 2, cells := 1, slots := 4, locals := 35 } : Room) s m #[(.ref a1), (.int p2), (.int p3), (.int p4)] below meth c s₁ [] 0 0 := Stand.of_body Bd
  have e0 : s₁.heap = h0 := by rw [← hh, Bd.state]; rfl
  have pre0 : ∀ t, Steps p.tables e below (s₁.setTop (mkF m 0 #[.val (.ref a1), .val (.int p2), .val (.int p3), .val (.int p4), .unset, .unset, .unset, .unset] [])) t → Steps p.tables e below (s₁.setTop (entryFrame m #[(.ref a1), (.int p2), (.int p3), (.int p4)] 8)) t := fun t k => castTop (ef_4_f21 m a1 p2 p3 p4) k
  obtain ⟨cq1, q1, q1'⟩ := E_a1.cell
  obtain ⟨_, _, ⟨T1, L1, k1, n1⟩, -, X1, ⟨Lc1, hQ1, l1, y1, z1⟩, st1⟩ := X0.privateBack hx (y := mn_2) hown (mvT hZ (ww hw 35 rfl)) (mvT hZ (ww hw 36 rfl)) (own_selPriv (mvT hZ (ww hw 2 rfl)) (Cond.privateMethod_at (mvP hZ (ww hw 37 rfl) (args := #[]))) (mvT hZ (ww hw 36 rfl)) (by decide)) (Cond.privateMethod_at (mvP hZ (ww hw 37 rfl) (args := #[]))) (mvT hZ (ww hw 38 rfl)) (by decide) (backOf (W := 0) (rm5_2v l Z a0 hw [] a1 p2 p3 p4 bi bf bp bc bn ki kf kp kc kn IL FL PL NL CV s4 k4 t0_ t1_ t2_ t3_ k0_ f0_ k1_ f1_ (1 : Int32) h0 E_a1 F_children V_bc F_childCounts V_bn F_items V_bi F_sameEvents V_bf hp hcv hnc V_s4 hb0 hk0 hf0 hb1 hk1 hf1 hat) hZ (ww hw 38 rfl) (ww hw 3 rfl) (by decide) (by decide)) (g := (mkF m 4 #[vR a1, vI p2, vI p3, vI p4, .unset, .unset, .unset, .unset] [iI p4, iI p3, iI p2, iR a1])) rfl (by rw [hml]; rfl) (Steps.refl _) (a := a1) (by rw [e0]; exact q1) q1' (argsL := [(.int p2), (.int p3), (.int p4)]) (rest := []) (lenOf pd_2 rfl) rfl (wz rfl) (hb hby d4_4) (fun _ _ => ⟨rfl, e0, (by decide : 0 + 0 ≤ _), (by decide : 0 + 0 ≤ _)⟩)
  dsimp only [Pt.U, Pt.locs, Pt.cells, Pt.slots] at X1 l1 y1 z1 st1 hQ1
  subst l1 y1 z1
  obtain ⟨rfl, rfl, e1⟩ := hQ1
  try rw [List.append_nil] at X1
  obtain ⟨T2, X2, e2, st2⟩ := gF X1 hx hZ hown (ww hw 22 rfl) e1 F_children (g := (mkF m 10 #[vR a1, vI p2, vI p3, vI p4, vI 1, .unset, .unset, .unset] [iR a1])) rfl rfl (hb hby d4_10)
  obtain ⟨cl3, Ar3, q3, S3, M3, H3, G3⟩ := id V_bc
  have hin4 := inb_of (j := p2) S3 hp
  have hat5 : cl3.slots[(p2).toNatClampNeg]? = some (.ref s4) := Has.at H3 hin4 hcv
  obtain ⟨T6, X6, e6, st6⟩ := gF X2 hx hZ hown (ww hw 24 rfl) e2 F_childCounts (g := (mkF m 18 #[vR a1, vI p2, vI p3, vI p4, vI 1, vR s4, .unset, .unset] [iR a1])) rfl rfl (hb hby d4_18)
  obtain ⟨cl7, Ar7, q7, S7, M7, H7, G7⟩ := id V_bn
  have hin8 := inb_of (j := p2) S7 hp
  have hat9 : cl7.slots[(p2).toNatClampNeg]? = some (.int (2 : Int32)) := Has.at H7 hin8 (by rw [own_bsget, hnc])
  obtain ⟨T10, X10, e10, st10⟩ := gF X6 hx hZ hown (ww hw 13 rfl) e6 F_items (g := (mkF m 33 #[vR a1, vI p2, vI p3, vI p4, vI 1, vR s4, vI 2, .unset] [iR a1])) rfl rfl (hb hby d4_33)
  obtain ⟨cl11, Ar11, q11, S11, M11, H11, G11⟩ := id V_s4
  have hin12 := inb_of (j := (1 : Int32)) S11 ⟨by decide, by decide⟩
  obtain ⟨cl14, Ar14, q14, S14, M14, H14, G14⟩ := id V_bi
  have hin15 := inb_of (j := t1_) S14 hb1
  have hat16 : cl14.slots[(t1_).toNatClampNeg]? = some (.int k1_) := Has.at H14 hin15 (by rw [own_bsget, hk1])
  obtain ⟨T17, X17, e17, st17⟩ := gF X10 hx hZ hown (ww hw 16 rfl) e10 F_sameEvents (g := (mkF m 47 #[vR a1, vI p2, vI p3, vI p4, vI 1, vR s4, vI 2, .unset] [iR a1])) rfl rfl (hb hby d4_47)
  have hin18 := inb_of (j := (1 : Int32)) S11 ⟨by decide, by decide⟩
  obtain ⟨cl20, Ar20, q20, S20, M20, H20, G20⟩ := id V_bf
  have hin21 := inb_of (j := t1_) S20 hb1
  have hat22 : cl20.slots[(t1_).toNatClampNeg]? = some (.int f1_) := Has.at H20 hin21 (by rw [own_bsget, hf1])
  have hin23 := inb_of (j := (1 : Int32)) S11 ⟨by decide, by decide⟩
  obtain ⟨fs, hr, hrun, hended, hW, hsame⟩ := X17.leave (v := some (.int t1_)) (fun h => by rw [Bd.returns] at h; cases h)
  refine ⟨_, _, pre0 _ ?_, hrun, hended, _, _, rfl, ?_, ⟨_, rfl⟩, hW, hsame.mono (by decide) (by decide)⟩
  · refine XS.aloadN X0.here hx rfl (hb hby d4_0) rfl rfl ?_
    refine XS.iloadN X0.here hx rfl (hb hby d4_1) rfl ?_
    refine XS.iloadN X0.here hx rfl (hb hby d4_2) rfl ?_
    refine XS.iloadN X0.here hx rfl (hb hby d4_3) rfl ?_
    refine st1.trans ?_
    refine XS.istore X1.here hx rfl (hb hby d4_7) rfl (l' := #[vR a1, vI p2, vI p3, vI p4, vI 1, .unset, .unset, .unset]) rfl ?_
    refine XS.aloadN X1.here hx rfl (hb hby d4_9) rfl rfl ?_
    refine st2 _ ?_
    refine XS.iloadN X2.here hx rfl (hb hby d4_13) rfl ?_
    refine X2.aaload hx (j := p2) (v := (.ref s4)) (by rw [e2]; exact Ar3.1) (State.isArrayOf_alike hZ.alike Ar3.2.1) rfl Ar3.2.2 hin4 hat5 (g := (mkF m 14 #[vR a1, vI p2, vI p3, vI p4, vI 1, .unset, .unset, .unset] [iI p2, iR bc])) rfl rfl (hb hby d4_14) _ ?_
    refine XS.astore X2.here hx rfl (hb hby d4_15) rfl rfl (l' := #[vR a1, vI p2, vI p3, vI p4, vI 1, vR s4, .unset, .unset]) rfl ?_
    refine XS.aloadN X2.here hx rfl (hb hby d4_17) rfl rfl ?_
    refine st6 _ ?_
    refine XS.iloadN X6.here hx rfl (hb hby d4_21) rfl ?_
    refine X6.iaload hx (j := p2) (v := (.int (2 : Int32))) (by rw [e6]; exact Ar7.1) (State.isArrayOf_alike hZ.alike Ar7.2.1) Ar7.2.2 hin8 hat9 (g := (mkF m 22 #[vR a1, vI p2, vI p3, vI p4, vI 1, vR s4, .unset, .unset] [iI p2, iR bn])) rfl rfl (hb hby d4_22) _ ?_
    refine XS.istore X6.here hx rfl (hb hby d4_23) rfl (l' := #[vR a1, vI p2, vI p3, vI p4, vI 1, vR s4, vI 2, .unset]) rfl ?_
    refine XS.iload X6.here hx rfl (hb hby d4_25) rfl ?_
    refine XS.iload X6.here hx rfl (hb hby d4_27) rfl ?_
    refine XS.icmpNo X6.here hx rfl (hb hby d4_29) rfl (tlt (by decide : (1 : Int32) < (2 : Int32))).2.1 ?_
    refine XS.aloadN X6.here hx rfl (hb hby d4_32) rfl rfl ?_
    refine st10 _ ?_
    refine XS.aload X10.here hx rfl (hb hby d4_36) rfl rfl ?_
    refine XS.iload X10.here hx rfl (hb hby d4_38) rfl ?_
    refine X10.iaload hx (j := (1 : Int32)) (v := (.int t1_)) (by rw [e10]; exact Ar11.1) (State.isArrayOf_alike hZ.alike Ar11.2.1) Ar11.2.2 hin12 (Has.at H11 hin12 rfl) (g := (mkF m 40 #[vR a1, vI p2, vI p3, vI p4, vI 1, vR s4, vI 2, .unset] [iI 1, iR s4, iR bi])) rfl rfl (hb hby d4_40) _ ?_
    refine X10.iaload hx (j := t1_) (v := (.int k1_)) (by rw [e10]; exact Ar14.1) (State.isArrayOf_alike hZ.alike Ar14.2.1) Ar14.2.2 hin15 hat16 (g := (mkF m 41 #[vR a1, vI p2, vI p3, vI p4, vI 1, vR s4, vI 2, .unset] [iI t1_, iR bi])) rfl rfl (hb hby d4_41) _ ?_
    refine XS.iloadN X10.here hx rfl (hb hby d4_42) rfl ?_
    refine XS.icmpNo X10.here hx rfl (hb hby d4_43) rfl (teq hqk).2 ?_
    refine XS.aloadN X10.here hx rfl (hb hby d4_46) rfl rfl ?_
    refine st17 _ ?_
    refine XS.aload X17.here hx rfl (hb hby d4_50) rfl rfl ?_
    refine XS.iload X17.here hx rfl (hb hby d4_52) rfl ?_
    refine X17.iaload hx (j := (1 : Int32)) (v := (.int t1_)) (by rw [e17]; exact Ar11.1) (State.isArrayOf_alike hZ.alike Ar11.2.1) Ar11.2.2 hin18 (Has.at H11 hin18 rfl) (g := (mkF m 54 #[vR a1, vI p2, vI p3, vI p4, vI 1, vR s4, vI 2, .unset] [iI 1, iR s4, iR bf])) rfl rfl (hb hby d4_54) _ ?_
    refine X17.baloadBooleans hx (j := t1_) (v := (.int f1_)) (by rw [e17]; exact Ar20.1) (State.isArrayOf_alike hZ.alike Ar20.2.1) Ar20.2.2 hin21 hat22 (g := (mkF m 55 #[vR a1, vI p2, vI p3, vI p4, vI 1, vR s4, vI 2, .unset] [iI t1_, iR bf])) rfl rfl (hb hby d4_55) _ ?_
    refine XS.iloadN X17.here hx rfl (hb hby d4_56) rfl ?_
    refine XS.icmpNo X17.here hx rfl (hb hby d4_57) rfl (teq hqf).2 ?_
    refine XS.aload X17.here hx rfl (hb hby d4_60) rfl rfl ?_
    refine XS.iload X17.here hx rfl (hb hby d4_62) rfl ?_
    refine X17.iaload hx (j := (1 : Int32)) (v := (.int t1_)) (by rw [e17]; exact Ar11.1) (State.isArrayOf_alike hZ.alike Ar11.2.1) Ar11.2.2 hin23 (Has.at H11 hin23 rfl) (g := (mkF m 64 #[vR a1, vI p2, vI p3, vI p4, vI 1, vR s4, vI 2, .unset] [iI 1, iR s4])) rfl rfl (hb hby d4_64) _ ?_
    show Steps _ _ _ (T17.setTop (mkF m 65 #[vR a1, vI p2, vI p3, vI p4, vI 1, vR s4, vI 2, .unset] [iI t1_])) _
    exact retI X17 hx Bd.returns (hb hby d4_65) hr
  · show Q4_f21 Z a1 p2 p3 p4 bi bf bp bc bn ki kf kp kc kn IL FL PL NL CV s4 k4 t0_ t1_ t2_ t3_ k0_ f0_ k1_ f1_ h0 _ T17.heap _
    rw [e17]
    exact ⟨rfl, rfl, rfl⟩
theorem ef_4_f30 (m : MethodId) (x0 : Addr) (x1 : Int32) (x2 : Int32) (x3 : Int32) : entryFrame m #[(.ref x0), (.int x1), (.int x2), (.int x3)] 8 = mkF m 0 #[.val (.ref x0), .val (.int x1), .val (.int x2), .val (.int x3), .unset, .unset, .unset, .unset] [] := by first | (simp [entryFrame, mkF, argsToLocals, Value.category]; done) | rfl
def Q4_f30 (Z : State) (a1 : Addr) (p2 : Int32) (p3 : Int32) (p4 : Int32) (bi bf bp bc bn : Addr) (ki kf kp kc kn : ClassId) (IL FL PL NL : List Int32) (CV : List Value) (s4 : Addr) (k4 : ClassId) (t0_ t1_ t2_ t3_ : Int32) (k0_ f0_ k1_ f1_ k2_ f2_ : Int32) (h0 : Heap) (v : Option Value) (h : Heap) (L : List Loc) : Prop := v = some (.int t0_) ∧ L = [] ∧ h = h0
theorem rm4_f30 (l : Launch) (Z : State) (a0 : Array Value) (hw : ∀ d ∈ tables_1, d.before a0 Z = true) (ws : List Jvm.Cond) (a1 : Addr) (p2 : Int32) (p3 : Int32) (p4 : Int32) (bi bf bp bc bn : Addr) (ki kf kp kc kn : ClassId) (IL FL PL NL : List Int32) (CV : List Value) (s4 : Addr) (k4 : ClassId) (t0_ t1_ t2_ t3_ : Int32) (k0_ f0_ k1_ f1_ k2_ f2_ : Int32) (h0 : Heap) (E_a1 : Exa Z h0 a1 "com/example/tidemine/tidemine/PatternTrie") (F_items : Fld Z h0 a1 "com/example/tidemine/tidemine/PatternTrie" "items" "[I" (.ref bi)) (V_bi : Arv Z h0 bi ki .int (16 : Int32) (own_bs IL) (.int (0 : Int32))) (F_sameEvents : Fld Z h0 a1 "com/example/tidemine/tidemine/PatternTrie" "sameEvents" "[Z" (.ref bf)) (V_bf : Arv Z h0 bf kf .boolean (16 : Int32) (own_bs FL) (.int (0 : Int32))) (F_parents : Fld Z h0 a1 "com/example/tidemine/tidemine/PatternTrie" "parents" "[I" (.ref bp)) (V_bp : Arv Z h0 bp kp .int (16 : Int32) (own_bs PL) (.int (0 : Int32))) (F_children : Fld Z h0 a1 "com/example/tidemine/tidemine/PatternTrie" "children" "[[I" (.ref bc)) (V_bc : Arv Z h0 bc kc (.array .int) (16 : Int32) CV .null) (F_childCounts : Fld Z h0 a1 "com/example/tidemine/tidemine/PatternTrie" "childCounts" "[I" (.ref bn)) (V_bn : Arv Z h0 bn kn .int (16 : Int32) (own_bs NL) (.int (0 : Int32))) (hp : ¬ p2 < (0 : Int32) ∧ p2 < (16 : Int32)) (hcv : CV.getD p2.toNatClampNeg .null = .ref s4) (hnc : NL.getD p2.toNatClampNeg 0 = (3 : Int32)) (V_s4 : Arv Z h0 s4 k4 .int (4 : Int32) [(.int t0_), (.int t1_), (.int t2_), (.int t3_)] (.int (0 : Int32))) (hb0 : ¬ t0_ < (0 : Int32) ∧ t0_ < (16 : Int32)) (hk0 : IL.getD t0_.toNatClampNeg 0 = k0_) (hf0 : FL.getD t0_.toNatClampNeg 0 = f0_) (hb1 : ¬ t1_ < (0 : Int32) ∧ t1_ < (16 : Int32)) (hk1 : IL.getD t1_.toNatClampNeg 0 = k1_) (hf1 : FL.getD t1_.toNatClampNeg 0 = f1_) (hb2 : ¬ t2_ < (0 : Int32) ∧ t2_ < (16 : Int32)) (hk2 : IL.getD t2_.toNatClampNeg 0 = k2_) (hf2 : FL.getD t2_.toNatClampNeg 0 = f2_) (hat : own_s_3 k0_ f0_ k1_ f1_ k2_ f2_ p3 p4 = (0 : Int32)) (hqk : k0_ = p3) (hqf : f0_ = p4) :
    MetFree l mn_3 (head1 (Jvm.Cond.code mn_3 prog_23_method_3_code 8 (some .int) :: ws) ({ frames := 2, cells := 1, slots := 4, locals := 35 } : Room)) (fun a U => a = #[(.ref a1), (.int p2), (.int p3), (.int p4)] ∧ Z.Warmed39 U.vm ∧ U.heap = h0) (fun _ _ _ _ _ => True) (fun _ U o U' => ∃ v L, o = .returned v ∧ Q4_f30 Z a1 p2 p3 p4 bi bf bp bc bn ki kf kp kc kn IL FL PL NL CV s4 k4 t0_ t1_ t2_ t3_ k0_ f0_ k1_ f1_ k2_ f2_ h0 v U'.heap L ∧ FrameEnd U o U' L ({ frames := 2, cells := 1, slots := 4, locals := 35 } : Room).cells ({ frames := 2, cells := 1, slots := 4, locals := 35 } : Room).slots) := by
  refine MetFree.of_bodySF (plainFor_of_name pn_2) hisR ?_
  intro p e s m args below meth c s₁ Bd hml0 hP hK
  obtain ⟨rfl, hZ, hh⟩ := hP
  have hx := Bd.exec
  have hby := Bd.bytes
  have hml : c.maxLocals = 8 := hml0
  have hown : s.vm.findClass "com/example/tidemine/tidemine/PatternTrie" = some m.cls := findClass_of_methodNamed Bd.named
  have hnm := (name_of_methodNamed Bd.named Bd.method).1
  have X0 : Stand p l e ({ frames := 2, cells := 1, slots := 4, locals := 35 } : Room) s m #[(.ref a1), (.int p2), (.int p3), (.int p4)] below meth c s₁ [] 0 0 := Stand.of_body Bd
  have e0 : s₁.heap = h0 := by rw [← hh, Bd.state]; rfl
  have pre0 : ∀ t, Steps p.tables e below (s₁.setTop (mkF m 0 #[.val (.ref a1), .val (.int p2), .val (.int p3), .val (.int p4), .unset, .unset, .unset, .unset] [])) t → Steps p.tables e below (s₁.setTop (entryFrame m #[(.ref a1), (.int p2), (.int p3), (.int p4)] 8)) t := fun t k => castTop (ef_4_f30 m a1 p2 p3 p4) k
  obtain ⟨cq1, q1, q1'⟩ := E_a1.cell
  obtain ⟨_, _, ⟨T1, L1, k1, n1⟩, -, X1, ⟨Lc1, hQ1, l1, y1, z1⟩, st1⟩ := X0.privateBack hx (y := mn_2) hown (mvT hZ (ww hw 35 rfl)) (mvT hZ (ww hw 36 rfl)) (own_selPriv (mvT hZ (ww hw 2 rfl)) (Cond.privateMethod_at (mvP hZ (ww hw 37 rfl) (args := #[]))) (mvT hZ (ww hw 36 rfl)) (by decide)) (Cond.privateMethod_at (mvP hZ (ww hw 37 rfl) (args := #[]))) (mvT hZ (ww hw 38 rfl)) (by decide) (backOf (W := 0) (rm5_3v l Z a0 hw [] a1 p2 p3 p4 bi bf bp bc bn ki kf kp kc kn IL FL PL NL CV s4 k4 t0_ t1_ t2_ t3_ k0_ f0_ k1_ f1_ k2_ f2_ (0 : Int32) h0 E_a1 F_children V_bc F_childCounts V_bn F_items V_bi F_sameEvents V_bf hp hcv hnc V_s4 hb0 hk0 hf0 hb1 hk1 hf1 hb2 hk2 hf2 hat) hZ (ww hw 38 rfl) (ww hw 3 rfl) (by decide) (by decide)) (g := (mkF m 4 #[vR a1, vI p2, vI p3, vI p4, .unset, .unset, .unset, .unset] [iI p4, iI p3, iI p2, iR a1])) rfl (by rw [hml]; rfl) (Steps.refl _) (a := a1) (by rw [e0]; exact q1) q1' (argsL := [(.int p2), (.int p3), (.int p4)]) (rest := []) (lenOf pd_2 rfl) rfl (wz rfl) (hb hby d4_4) (fun _ _ => ⟨rfl, e0, (by decide : 0 + 0 ≤ _), (by decide : 0 + 0 ≤ _)⟩)
  dsimp only [Pt.U, Pt.locs, Pt.cells, Pt.slots] at X1 l1 y1 z1 st1 hQ1
  subst l1 y1 z1
  obtain ⟨rfl, rfl, e1⟩ := hQ1
  try rw [List.append_nil] at X1
  obtain ⟨T2, X2, e2, st2⟩ := gF X1 hx hZ hown (ww hw 22 rfl) e1 F_children (g := (mkF m 10 #[vR a1, vI p2, vI p3, vI p4, vI 0, .unset, .unset, .unset] [iR a1])) rfl rfl (hb hby d4_10)
  obtain ⟨cl3, Ar3, q3, S3, M3, H3, G3⟩ := id V_bc
  have hin4 := inb_of (j := p2) S3 hp
  have hat5 : cl3.slots[(p2).toNatClampNeg]? = some (.ref s4) := Has.at H3 hin4 hcv
  obtain ⟨T6, X6, e6, st6⟩ := gF X2 hx hZ hown (ww hw 24 rfl) e2 F_childCounts (g := (mkF m 18 #[vR a1, vI p2, vI p3, vI p4, vI 0, vR s4, .unset, .unset] [iR a1])) rfl rfl (hb hby d4_18)
  obtain ⟨cl7, Ar7, q7, S7, M7, H7, G7⟩ := id V_bn
  have hin8 := inb_of (j := p2) S7 hp
  have hat9 : cl7.slots[(p2).toNatClampNeg]? = some (.int (3 : Int32)) := Has.at H7 hin8 (by rw [own_bsget, hnc])
  obtain ⟨T10, X10, e10, st10⟩ := gF X6 hx hZ hown (ww hw 13 rfl) e6 F_items (g := (mkF m 33 #[vR a1, vI p2, vI p3, vI p4, vI 0, vR s4, vI 3, .unset] [iR a1])) rfl rfl (hb hby d4_33)
  obtain ⟨cl11, Ar11, q11, S11, M11, H11, G11⟩ := id V_s4
  have hin12 := inb_of (j := (0 : Int32)) S11 ⟨by decide, by decide⟩
  obtain ⟨cl14, Ar14, q14, S14, M14, H14, G14⟩ := id V_bi
  have hin15 := inb_of (j := t0_) S14 hb0
  have hat16 : cl14.slots[(t0_).toNatClampNeg]? = some (.int k0_) := Has.at H14 hin15 (by rw [own_bsget, hk0])
  obtain ⟨T17, X17, e17, st17⟩ := gF X10 hx hZ hown (ww hw 16 rfl) e10 F_sameEvents (g := (mkF m 47 #[vR a1, vI p2, vI p3, vI p4, vI 0, vR s4, vI 3, .unset] [iR a1])) rfl rfl (hb hby d4_47)
  have hin18 := inb_of (j := (0 : Int32)) S11 ⟨by decide, by decide⟩
  obtain ⟨cl20, Ar20, q20, S20, M20, H20, G20⟩ := id V_bf
  have hin21 := inb_of (j := t0_) S20 hb0
  have hat22 : cl20.slots[(t0_).toNatClampNeg]? = some (.int f0_) := Has.at H20 hin21 (by rw [own_bsget, hf0])
  have hin23 := inb_of (j := (0 : Int32)) S11 ⟨by decide, by decide⟩
  obtain ⟨fs, hr, hrun, hended, hW, hsame⟩ := X17.leave (v := some (.int t0_)) (fun h => by rw [Bd.returns] at h; cases h)
  refine ⟨_, _, pre0 _ ?_, hrun, hended, _, _, rfl, ?_, ⟨_, rfl⟩, hW, hsame.mono (by decide) (by decide)⟩
  · refine XS.aloadN X0.here hx rfl (hb hby d4_0) rfl rfl ?_
    refine XS.iloadN X0.here hx rfl (hb hby d4_1) rfl ?_
    refine XS.iloadN X0.here hx rfl (hb hby d4_2) rfl ?_
    refine XS.iloadN X0.here hx rfl (hb hby d4_3) rfl ?_
    refine st1.trans ?_
    refine XS.istore X1.here hx rfl (hb hby d4_7) rfl (l' := #[vR a1, vI p2, vI p3, vI p4, vI 0, .unset, .unset, .unset]) rfl ?_
    refine XS.aloadN X1.here hx rfl (hb hby d4_9) rfl rfl ?_
    refine st2 _ ?_
    refine XS.iloadN X2.here hx rfl (hb hby d4_13) rfl ?_
    refine X2.aaload hx (j := p2) (v := (.ref s4)) (by rw [e2]; exact Ar3.1) (State.isArrayOf_alike hZ.alike Ar3.2.1) rfl Ar3.2.2 hin4 hat5 (g := (mkF m 14 #[vR a1, vI p2, vI p3, vI p4, vI 0, .unset, .unset, .unset] [iI p2, iR bc])) rfl rfl (hb hby d4_14) _ ?_
    refine XS.astore X2.here hx rfl (hb hby d4_15) rfl rfl (l' := #[vR a1, vI p2, vI p3, vI p4, vI 0, vR s4, .unset, .unset]) rfl ?_
    refine XS.aloadN X2.here hx rfl (hb hby d4_17) rfl rfl ?_
    refine st6 _ ?_
    refine XS.iloadN X6.here hx rfl (hb hby d4_21) rfl ?_
    refine X6.iaload hx (j := p2) (v := (.int (3 : Int32))) (by rw [e6]; exact Ar7.1) (State.isArrayOf_alike hZ.alike Ar7.2.1) Ar7.2.2 hin8 hat9 (g := (mkF m 22 #[vR a1, vI p2, vI p3, vI p4, vI 0, vR s4, .unset, .unset] [iI p2, iR bn])) rfl rfl (hb hby d4_22) _ ?_
    refine XS.istore X6.here hx rfl (hb hby d4_23) rfl (l' := #[vR a1, vI p2, vI p3, vI p4, vI 0, vR s4, vI 3, .unset]) rfl ?_
    refine XS.iload X6.here hx rfl (hb hby d4_25) rfl ?_
    refine XS.iload X6.here hx rfl (hb hby d4_27) rfl ?_
    refine XS.icmpNo X6.here hx rfl (hb hby d4_29) rfl (tlt (by decide : (0 : Int32) < (3 : Int32))).2.1 ?_
    refine XS.aloadN X6.here hx rfl (hb hby d4_32) rfl rfl ?_
    refine st10 _ ?_
    refine XS.aload X10.here hx rfl (hb hby d4_36) rfl rfl ?_
    refine XS.iload X10.here hx rfl (hb hby d4_38) rfl ?_
    refine X10.iaload hx (j := (0 : Int32)) (v := (.int t0_)) (by rw [e10]; exact Ar11.1) (State.isArrayOf_alike hZ.alike Ar11.2.1) Ar11.2.2 hin12 (Has.at H11 hin12 rfl) (g := (mkF m 40 #[vR a1, vI p2, vI p3, vI p4, vI 0, vR s4, vI 3, .unset] [iI 0, iR s4, iR bi])) rfl rfl (hb hby d4_40) _ ?_
    refine X10.iaload hx (j := t0_) (v := (.int k0_)) (by rw [e10]; exact Ar14.1) (State.isArrayOf_alike hZ.alike Ar14.2.1) Ar14.2.2 hin15 hat16 (g := (mkF m 41 #[vR a1, vI p2, vI p3, vI p4, vI 0, vR s4, vI 3, .unset] [iI t0_, iR bi])) rfl rfl (hb hby d4_41) _ ?_
    refine XS.iloadN X10.here hx rfl (hb hby d4_42) rfl ?_
    refine XS.icmpNo X10.here hx rfl (hb hby d4_43) rfl (teq hqk).2 ?_
    refine XS.aloadN X10.here hx rfl (hb hby d4_46) rfl rfl ?_
    refine st17 _ ?_
    refine XS.aload X17.here hx rfl (hb hby d4_50) rfl rfl ?_
    refine XS.iload X17.here hx rfl (hb hby d4_52) rfl ?_
    refine X17.iaload hx (j := (0 : Int32)) (v := (.int t0_)) (by rw [e17]; exact Ar11.1) (State.isArrayOf_alike hZ.alike Ar11.2.1) Ar11.2.2 hin18 (Has.at H11 hin18 rfl) (g := (mkF m 54 #[vR a1, vI p2, vI p3, vI p4, vI 0, vR s4, vI 3, .unset] [iI 0, iR s4, iR bf])) rfl rfl (hb hby d4_54) _ ?_
    refine X17.baloadBooleans hx (j := t0_) (v := (.int f0_)) (by rw [e17]; exact Ar20.1) (State.isArrayOf_alike hZ.alike Ar20.2.1) Ar20.2.2 hin21 hat22 (g := (mkF m 55 #[vR a1, vI p2, vI p3, vI p4, vI 0, vR s4, vI 3, .unset] [iI t0_, iR bf])) rfl rfl (hb hby d4_55) _ ?_
    refine XS.iloadN X17.here hx rfl (hb hby d4_56) rfl ?_
    refine XS.icmpNo X17.here hx rfl (hb hby d4_57) rfl (teq hqf).2 ?_
    refine XS.aload X17.here hx rfl (hb hby d4_60) rfl rfl ?_
    refine XS.iload X17.here hx rfl (hb hby d4_62) rfl ?_
    refine X17.iaload hx (j := (0 : Int32)) (v := (.int t0_)) (by rw [e17]; exact Ar11.1) (State.isArrayOf_alike hZ.alike Ar11.2.1) Ar11.2.2 hin23 (Has.at H11 hin23 rfl) (g := (mkF m 64 #[vR a1, vI p2, vI p3, vI p4, vI 0, vR s4, vI 3, .unset] [iI 0, iR s4])) rfl rfl (hb hby d4_64) _ ?_
    show Steps _ _ _ (T17.setTop (mkF m 65 #[vR a1, vI p2, vI p3, vI p4, vI 0, vR s4, vI 3, .unset] [iI t0_])) _
    exact retI X17 hx Bd.returns (hb hby d4_65) hr
  · show Q4_f30 Z a1 p2 p3 p4 bi bf bp bc bn ki kf kp kc kn IL FL PL NL CV s4 k4 t0_ t1_ t2_ t3_ k0_ f0_ k1_ f1_ k2_ f2_ h0 _ T17.heap _
    rw [e17]
    exact ⟨rfl, rfl, rfl⟩
theorem ef_4_f31 (m : MethodId) (x0 : Addr) (x1 : Int32) (x2 : Int32) (x3 : Int32) : entryFrame m #[(.ref x0), (.int x1), (.int x2), (.int x3)] 8 = mkF m 0 #[.val (.ref x0), .val (.int x1), .val (.int x2), .val (.int x3), .unset, .unset, .unset, .unset] [] := by first | (simp [entryFrame, mkF, argsToLocals, Value.category]; done) | rfl
def Q4_f31 (Z : State) (a1 : Addr) (p2 : Int32) (p3 : Int32) (p4 : Int32) (bi bf bp bc bn : Addr) (ki kf kp kc kn : ClassId) (IL FL PL NL : List Int32) (CV : List Value) (s4 : Addr) (k4 : ClassId) (t0_ t1_ t2_ t3_ : Int32) (k0_ f0_ k1_ f1_ k2_ f2_ : Int32) (h0 : Heap) (v : Option Value) (h : Heap) (L : List Loc) : Prop := v = some (.int t1_) ∧ L = [] ∧ h = h0
theorem rm4_f31 (l : Launch) (Z : State) (a0 : Array Value) (hw : ∀ d ∈ tables_1, d.before a0 Z = true) (ws : List Jvm.Cond) (a1 : Addr) (p2 : Int32) (p3 : Int32) (p4 : Int32) (bi bf bp bc bn : Addr) (ki kf kp kc kn : ClassId) (IL FL PL NL : List Int32) (CV : List Value) (s4 : Addr) (k4 : ClassId) (t0_ t1_ t2_ t3_ : Int32) (k0_ f0_ k1_ f1_ k2_ f2_ : Int32) (h0 : Heap) (E_a1 : Exa Z h0 a1 "com/example/tidemine/tidemine/PatternTrie") (F_items : Fld Z h0 a1 "com/example/tidemine/tidemine/PatternTrie" "items" "[I" (.ref bi)) (V_bi : Arv Z h0 bi ki .int (16 : Int32) (own_bs IL) (.int (0 : Int32))) (F_sameEvents : Fld Z h0 a1 "com/example/tidemine/tidemine/PatternTrie" "sameEvents" "[Z" (.ref bf)) (V_bf : Arv Z h0 bf kf .boolean (16 : Int32) (own_bs FL) (.int (0 : Int32))) (F_parents : Fld Z h0 a1 "com/example/tidemine/tidemine/PatternTrie" "parents" "[I" (.ref bp)) (V_bp : Arv Z h0 bp kp .int (16 : Int32) (own_bs PL) (.int (0 : Int32))) (F_children : Fld Z h0 a1 "com/example/tidemine/tidemine/PatternTrie" "children" "[[I" (.ref bc)) (V_bc : Arv Z h0 bc kc (.array .int) (16 : Int32) CV .null) (F_childCounts : Fld Z h0 a1 "com/example/tidemine/tidemine/PatternTrie" "childCounts" "[I" (.ref bn)) (V_bn : Arv Z h0 bn kn .int (16 : Int32) (own_bs NL) (.int (0 : Int32))) (hp : ¬ p2 < (0 : Int32) ∧ p2 < (16 : Int32)) (hcv : CV.getD p2.toNatClampNeg .null = .ref s4) (hnc : NL.getD p2.toNatClampNeg 0 = (3 : Int32)) (V_s4 : Arv Z h0 s4 k4 .int (4 : Int32) [(.int t0_), (.int t1_), (.int t2_), (.int t3_)] (.int (0 : Int32))) (hb0 : ¬ t0_ < (0 : Int32) ∧ t0_ < (16 : Int32)) (hk0 : IL.getD t0_.toNatClampNeg 0 = k0_) (hf0 : FL.getD t0_.toNatClampNeg 0 = f0_) (hb1 : ¬ t1_ < (0 : Int32) ∧ t1_ < (16 : Int32)) (hk1 : IL.getD t1_.toNatClampNeg 0 = k1_) (hf1 : FL.getD t1_.toNatClampNeg 0 = f1_) (hb2 : ¬ t2_ < (0 : Int32) ∧ t2_ < (16 : Int32)) (hk2 : IL.getD t2_.toNatClampNeg 0 = k2_) (hf2 : FL.getD t2_.toNatClampNeg 0 = f2_) (hat : own_s_3 k0_ f0_ k1_ f1_ k2_ f2_ p3 p4 = (1 : Int32)) (hqk : k1_ = p3) (hqf : f1_ = p4) :
    MetFree l mn_3 (head1 (Jvm.Cond.code mn_3 prog_23_method_3_code 8 (some .int) :: ws) ({ frames := 2, cells := 1, slots := 4, locals := 35 } : Room)) (fun a U => a = #[(.ref a1), (.int p2), (.int p3), (.int p4)] ∧ Z.Warmed39 U.vm ∧ U.heap = h0) (fun _ _ _ _ _ => True) (fun _ U o U' => ∃ v L, o = .returned v ∧ Q4_f31 Z a1 p2 p3 p4 bi bf bp bc bn ki kf kp kc kn IL FL PL NL CV s4 k4 t0_ t1_ t2_ t3_ k0_ f0_ k1_ f1_ k2_ f2_ h0 v U'.heap L ∧ FrameEnd U o U' L ({ frames := 2, cells := 1, slots := 4, locals := 35 } : Room).cells ({ frames := 2, cells := 1, slots := 4, locals := 35 } : Room).slots) := by
  refine MetFree.of_bodySF (plainFor_of_name pn_2) hisR ?_
  intro p e s m args below meth c s₁ Bd hml0 hP hK
  obtain ⟨rfl, hZ, hh⟩ := hP
  have hx := Bd.exec
  have hby := Bd.bytes
  have hml : c.maxLocals = 8 := hml0
  have hown : s.vm.findClass "com/example/tidemine/tidemine/PatternTrie" = some m.cls := findClass_of_methodNamed Bd.named
  have hnm := (name_of_methodNamed Bd.named Bd.method).1
  have X0 : Stand p l e ({ frames := 2, cells := 1, slots := 4, locals := 35 } : Room) s m #[(.ref a1), (.int p2), (.int p3), (.int p4)] below meth c s₁ [] 0 0 := Stand.of_body Bd
  have e0 : s₁.heap = h0 := by rw [← hh, Bd.state]; rfl
  have pre0 : ∀ t, Steps p.tables e below (s₁.setTop (mkF m 0 #[.val (.ref a1), .val (.int p2), .val (.int p3), .val (.int p4), .unset, .unset, .unset, .unset] [])) t → Steps p.tables e below (s₁.setTop (entryFrame m #[(.ref a1), (.int p2), (.int p3), (.int p4)] 8)) t := fun t k => castTop (ef_4_f31 m a1 p2 p3 p4) k
  obtain ⟨cq1, q1, q1'⟩ := E_a1.cell
  obtain ⟨_, _, ⟨T1, L1, k1, n1⟩, -, X1, ⟨Lc1, hQ1, l1, y1, z1⟩, st1⟩ := X0.privateBack hx (y := mn_2) hown (mvT hZ (ww hw 35 rfl)) (mvT hZ (ww hw 36 rfl)) (own_selPriv (mvT hZ (ww hw 2 rfl)) (Cond.privateMethod_at (mvP hZ (ww hw 37 rfl) (args := #[]))) (mvT hZ (ww hw 36 rfl)) (by decide)) (Cond.privateMethod_at (mvP hZ (ww hw 37 rfl) (args := #[]))) (mvT hZ (ww hw 38 rfl)) (by decide) (backOf (W := 0) (rm5_3v l Z a0 hw [] a1 p2 p3 p4 bi bf bp bc bn ki kf kp kc kn IL FL PL NL CV s4 k4 t0_ t1_ t2_ t3_ k0_ f0_ k1_ f1_ k2_ f2_ (1 : Int32) h0 E_a1 F_children V_bc F_childCounts V_bn F_items V_bi F_sameEvents V_bf hp hcv hnc V_s4 hb0 hk0 hf0 hb1 hk1 hf1 hb2 hk2 hf2 hat) hZ (ww hw 38 rfl) (ww hw 3 rfl) (by decide) (by decide)) (g := (mkF m 4 #[vR a1, vI p2, vI p3, vI p4, .unset, .unset, .unset, .unset] [iI p4, iI p3, iI p2, iR a1])) rfl (by rw [hml]; rfl) (Steps.refl _) (a := a1) (by rw [e0]; exact q1) q1' (argsL := [(.int p2), (.int p3), (.int p4)]) (rest := []) (lenOf pd_2 rfl) rfl (wz rfl) (hb hby d4_4) (fun _ _ => ⟨rfl, e0, (by decide : 0 + 0 ≤ _), (by decide : 0 + 0 ≤ _)⟩)
  dsimp only [Pt.U, Pt.locs, Pt.cells, Pt.slots] at X1 l1 y1 z1 st1 hQ1
  subst l1 y1 z1
  obtain ⟨rfl, rfl, e1⟩ := hQ1
  try rw [List.append_nil] at X1
  obtain ⟨T2, X2, e2, st2⟩ := gF X1 hx hZ hown (ww hw 22 rfl) e1 F_children (g := (mkF m 10 #[vR a1, vI p2, vI p3, vI p4, vI 1, .unset, .unset, .unset] [iR a1])) rfl rfl (hb hby d4_10)
  obtain ⟨cl3, Ar3, q3, S3, M3, H3, G3⟩ := id V_bc
  have hin4 := inb_of (j := p2) S3 hp
  have hat5 : cl3.slots[(p2).toNatClampNeg]? = some (.ref s4) := Has.at H3 hin4 hcv
  obtain ⟨T6, X6, e6, st6⟩ := gF X2 hx hZ hown (ww hw 24 rfl) e2 F_childCounts (g := (mkF m 18 #[vR a1, vI p2, vI p3, vI p4, vI 1, vR s4, .unset, .unset] [iR a1])) rfl rfl (hb hby d4_18)
  obtain ⟨cl7, Ar7, q7, S7, M7, H7, G7⟩ := id V_bn
  have hin8 := inb_of (j := p2) S7 hp
  have hat9 : cl7.slots[(p2).toNatClampNeg]? = some (.int (3 : Int32)) := Has.at H7 hin8 (by rw [own_bsget, hnc])
  obtain ⟨T10, X10, e10, st10⟩ := gF X6 hx hZ hown (ww hw 13 rfl) e6 F_items (g := (mkF m 33 #[vR a1, vI p2, vI p3, vI p4, vI 1, vR s4, vI 3, .unset] [iR a1])) rfl rfl (hb hby d4_33)
  obtain ⟨cl11, Ar11, q11, S11, M11, H11, G11⟩ := id V_s4
  have hin12 := inb_of (j := (1 : Int32)) S11 ⟨by decide, by decide⟩
  obtain ⟨cl14, Ar14, q14, S14, M14, H14, G14⟩ := id V_bi
  have hin15 := inb_of (j := t1_) S14 hb1
  have hat16 : cl14.slots[(t1_).toNatClampNeg]? = some (.int k1_) := Has.at H14 hin15 (by rw [own_bsget, hk1])
  obtain ⟨T17, X17, e17, st17⟩ := gF X10 hx hZ hown (ww hw 16 rfl) e10 F_sameEvents (g := (mkF m 47 #[vR a1, vI p2, vI p3, vI p4, vI 1, vR s4, vI 3, .unset] [iR a1])) rfl rfl (hb hby d4_47)
  have hin18 := inb_of (j := (1 : Int32)) S11 ⟨by decide, by decide⟩
  obtain ⟨cl20, Ar20, q20, S20, M20, H20, G20⟩ := id V_bf
  have hin21 := inb_of (j := t1_) S20 hb1
  have hat22 : cl20.slots[(t1_).toNatClampNeg]? = some (.int f1_) := Has.at H20 hin21 (by rw [own_bsget, hf1])
  have hin23 := inb_of (j := (1 : Int32)) S11 ⟨by decide, by decide⟩
  obtain ⟨fs, hr, hrun, hended, hW, hsame⟩ := X17.leave (v := some (.int t1_)) (fun h => by rw [Bd.returns] at h; cases h)
  refine ⟨_, _, pre0 _ ?_, hrun, hended, _, _, rfl, ?_, ⟨_, rfl⟩, hW, hsame.mono (by decide) (by decide)⟩
  · refine XS.aloadN X0.here hx rfl (hb hby d4_0) rfl rfl ?_
    refine XS.iloadN X0.here hx rfl (hb hby d4_1) rfl ?_
    refine XS.iloadN X0.here hx rfl (hb hby d4_2) rfl ?_
    refine XS.iloadN X0.here hx rfl (hb hby d4_3) rfl ?_
    refine st1.trans ?_
    refine XS.istore X1.here hx rfl (hb hby d4_7) rfl (l' := #[vR a1, vI p2, vI p3, vI p4, vI 1, .unset, .unset, .unset]) rfl ?_
    refine XS.aloadN X1.here hx rfl (hb hby d4_9) rfl rfl ?_
    refine st2 _ ?_
    refine XS.iloadN X2.here hx rfl (hb hby d4_13) rfl ?_
    refine X2.aaload hx (j := p2) (v := (.ref s4)) (by rw [e2]; exact Ar3.1) (State.isArrayOf_alike hZ.alike Ar3.2.1) rfl Ar3.2.2 hin4 hat5 (g := (mkF m 14 #[vR a1, vI p2, vI p3, vI p4, vI 1, .unset, .unset, .unset] [iI p2, iR bc])) rfl rfl (hb hby d4_14) _ ?_
    refine XS.astore X2.here hx rfl (hb hby d4_15) rfl rfl (l' := #[vR a1, vI p2, vI p3, vI p4, vI 1, vR s4, .unset, .unset]) rfl ?_
    refine XS.aloadN X2.here hx rfl (hb hby d4_17) rfl rfl ?_
    refine st6 _ ?_
    refine XS.iloadN X6.here hx rfl (hb hby d4_21) rfl ?_
    refine X6.iaload hx (j := p2) (v := (.int (3 : Int32))) (by rw [e6]; exact Ar7.1) (State.isArrayOf_alike hZ.alike Ar7.2.1) Ar7.2.2 hin8 hat9 (g := (mkF m 22 #[vR a1, vI p2, vI p3, vI p4, vI 1, vR s4, .unset, .unset] [iI p2, iR bn])) rfl rfl (hb hby d4_22) _ ?_
    refine XS.istore X6.here hx rfl (hb hby d4_23) rfl (l' := #[vR a1, vI p2, vI p3, vI p4, vI 1, vR s4, vI 3, .unset]) rfl ?_
    refine XS.iload X6.here hx rfl (hb hby d4_25) rfl ?_
    refine XS.iload X6.here hx rfl (hb hby d4_27) rfl ?_
    refine XS.icmpNo X6.here hx rfl (hb hby d4_29) rfl (tlt (by decide : (1 : Int32) < (3 : Int32))).2.1 ?_
    refine XS.aloadN X6.here hx rfl (hb hby d4_32) rfl rfl ?_
    refine st10 _ ?_
    refine XS.aload X10.here hx rfl (hb hby d4_36) rfl rfl ?_
    refine XS.iload X10.here hx rfl (hb hby d4_38) rfl ?_
    refine X10.iaload hx (j := (1 : Int32)) (v := (.int t1_)) (by rw [e10]; exact Ar11.1) (State.isArrayOf_alike hZ.alike Ar11.2.1) Ar11.2.2 hin12 (Has.at H11 hin12 rfl) (g := (mkF m 40 #[vR a1, vI p2, vI p3, vI p4, vI 1, vR s4, vI 3, .unset] [iI 1, iR s4, iR bi])) rfl rfl (hb hby d4_40) _ ?_
    refine X10.iaload hx (j := t1_) (v := (.int k1_)) (by rw [e10]; exact Ar14.1) (State.isArrayOf_alike hZ.alike Ar14.2.1) Ar14.2.2 hin15 hat16 (g := (mkF m 41 #[vR a1, vI p2, vI p3, vI p4, vI 1, vR s4, vI 3, .unset] [iI t1_, iR bi])) rfl rfl (hb hby d4_41) _ ?_
    refine XS.iloadN X10.here hx rfl (hb hby d4_42) rfl ?_
    refine XS.icmpNo X10.here hx rfl (hb hby d4_43) rfl (teq hqk).2 ?_
    refine XS.aloadN X10.here hx rfl (hb hby d4_46) rfl rfl ?_
    refine st17 _ ?_
    refine XS.aload X17.here hx rfl (hb hby d4_50) rfl rfl ?_
    refine XS.iload X17.here hx rfl (hb hby d4_52) rfl ?_
    refine X17.iaload hx (j := (1 : Int32)) (v := (.int t1_)) (by rw [e17]; exact Ar11.1) (State.isArrayOf_alike hZ.alike Ar11.2.1) Ar11.2.2 hin18 (Has.at H11 hin18 rfl) (g := (mkF m 54 #[vR a1, vI p2, vI p3, vI p4, vI 1, vR s4, vI 3, .unset] [iI 1, iR s4, iR bf])) rfl rfl (hb hby d4_54) _ ?_
    refine X17.baloadBooleans hx (j := t1_) (v := (.int f1_)) (by rw [e17]; exact Ar20.1) (State.isArrayOf_alike hZ.alike Ar20.2.1) Ar20.2.2 hin21 hat22 (g := (mkF m 55 #[vR a1, vI p2, vI p3, vI p4, vI 1, vR s4, vI 3, .unset] [iI t1_, iR bf])) rfl rfl (hb hby d4_55) _ ?_
    refine XS.iloadN X17.here hx rfl (hb hby d4_56) rfl ?_
    refine XS.icmpNo X17.here hx rfl (hb hby d4_57) rfl (teq hqf).2 ?_
    refine XS.aload X17.here hx rfl (hb hby d4_60) rfl rfl ?_
    refine XS.iload X17.here hx rfl (hb hby d4_62) rfl ?_
    refine X17.iaload hx (j := (1 : Int32)) (v := (.int t1_)) (by rw [e17]; exact Ar11.1) (State.isArrayOf_alike hZ.alike Ar11.2.1) Ar11.2.2 hin23 (Has.at H11 hin23 rfl) (g := (mkF m 64 #[vR a1, vI p2, vI p3, vI p4, vI 1, vR s4, vI 3, .unset] [iI 1, iR s4])) rfl rfl (hb hby d4_64) _ ?_
    show Steps _ _ _ (T17.setTop (mkF m 65 #[vR a1, vI p2, vI p3, vI p4, vI 1, vR s4, vI 3, .unset] [iI t1_])) _
    exact retI X17 hx Bd.returns (hb hby d4_65) hr
  · show Q4_f31 Z a1 p2 p3 p4 bi bf bp bc bn ki kf kp kc kn IL FL PL NL CV s4 k4 t0_ t1_ t2_ t3_ k0_ f0_ k1_ f1_ k2_ f2_ h0 _ T17.heap _
    rw [e17]
    exact ⟨rfl, rfl, rfl⟩
theorem ef_4_f32 (m : MethodId) (x0 : Addr) (x1 : Int32) (x2 : Int32) (x3 : Int32) : entryFrame m #[(.ref x0), (.int x1), (.int x2), (.int x3)] 8 = mkF m 0 #[.val (.ref x0), .val (.int x1), .val (.int x2), .val (.int x3), .unset, .unset, .unset, .unset] [] := by first | (simp [entryFrame, mkF, argsToLocals, Value.category]; done) | rfl
def Q4_f32 (Z : State) (a1 : Addr) (p2 : Int32) (p3 : Int32) (p4 : Int32) (bi bf bp bc bn : Addr) (ki kf kp kc kn : ClassId) (IL FL PL NL : List Int32) (CV : List Value) (s4 : Addr) (k4 : ClassId) (t0_ t1_ t2_ t3_ : Int32) (k0_ f0_ k1_ f1_ k2_ f2_ : Int32) (h0 : Heap) (v : Option Value) (h : Heap) (L : List Loc) : Prop := v = some (.int t2_) ∧ L = [] ∧ h = h0
theorem rm4_f32 (l : Launch) (Z : State) (a0 : Array Value) (hw : ∀ d ∈ tables_1, d.before a0 Z = true) (ws : List Jvm.Cond) (a1 : Addr) (p2 : Int32) (p3 : Int32) (p4 : Int32) (bi bf bp bc bn : Addr) (ki kf kp kc kn : ClassId) (IL FL PL NL : List Int32) (CV : List Value) (s4 : Addr) (k4 : ClassId) (t0_ t1_ t2_ t3_ : Int32) (k0_ f0_ k1_ f1_ k2_ f2_ : Int32) (h0 : Heap) (E_a1 : Exa Z h0 a1 "com/example/tidemine/tidemine/PatternTrie") (F_items : Fld Z h0 a1 "com/example/tidemine/tidemine/PatternTrie" "items" "[I" (.ref bi)) (V_bi : Arv Z h0 bi ki .int (16 : Int32) (own_bs IL) (.int (0 : Int32))) (F_sameEvents : Fld Z h0 a1 "com/example/tidemine/tidemine/PatternTrie" "sameEvents" "[Z" (.ref bf)) (V_bf : Arv Z h0 bf kf .boolean (16 : Int32) (own_bs FL) (.int (0 : Int32))) (F_parents : Fld Z h0 a1 "com/example/tidemine/tidemine/PatternTrie" "parents" "[I" (.ref bp)) (V_bp : Arv Z h0 bp kp .int (16 : Int32) (own_bs PL) (.int (0 : Int32))) (F_children : Fld Z h0 a1 "com/example/tidemine/tidemine/PatternTrie" "children" "[[I" (.ref bc)) (V_bc : Arv Z h0 bc kc (.array .int) (16 : Int32) CV .null) (F_childCounts : Fld Z h0 a1 "com/example/tidemine/tidemine/PatternTrie" "childCounts" "[I" (.ref bn)) (V_bn : Arv Z h0 bn kn .int (16 : Int32) (own_bs NL) (.int (0 : Int32))) (hp : ¬ p2 < (0 : Int32) ∧ p2 < (16 : Int32)) (hcv : CV.getD p2.toNatClampNeg .null = .ref s4) (hnc : NL.getD p2.toNatClampNeg 0 = (3 : Int32)) (V_s4 : Arv Z h0 s4 k4 .int (4 : Int32) [(.int t0_), (.int t1_), (.int t2_), (.int t3_)] (.int (0 : Int32))) (hb0 : ¬ t0_ < (0 : Int32) ∧ t0_ < (16 : Int32)) (hk0 : IL.getD t0_.toNatClampNeg 0 = k0_) (hf0 : FL.getD t0_.toNatClampNeg 0 = f0_) (hb1 : ¬ t1_ < (0 : Int32) ∧ t1_ < (16 : Int32)) (hk1 : IL.getD t1_.toNatClampNeg 0 = k1_) (hf1 : FL.getD t1_.toNatClampNeg 0 = f1_) (hb2 : ¬ t2_ < (0 : Int32) ∧ t2_ < (16 : Int32)) (hk2 : IL.getD t2_.toNatClampNeg 0 = k2_) (hf2 : FL.getD t2_.toNatClampNeg 0 = f2_) (hat : own_s_3 k0_ f0_ k1_ f1_ k2_ f2_ p3 p4 = (2 : Int32)) (hqk : k2_ = p3) (hqf : f2_ = p4) :
    MetFree l mn_3 (head1 (Jvm.Cond.code mn_3 prog_23_method_3_code 8 (some .int) :: ws) ({ frames := 2, cells := 1, slots := 4, locals := 35 } : Room)) (fun a U => a = #[(.ref a1), (.int p2), (.int p3), (.int p4)] ∧ Z.Warmed39 U.vm ∧ U.heap = h0) (fun _ _ _ _ _ => True) (fun _ U o U' => ∃ v L, o = .returned v ∧ Q4_f32 Z a1 p2 p3 p4 bi bf bp bc bn ki kf kp kc kn IL FL PL NL CV s4 k4 t0_ t1_ t2_ t3_ k0_ f0_ k1_ f1_ k2_ f2_ h0 v U'.heap L ∧ FrameEnd U o U' L ({ frames := 2, cells := 1, slots := 4, locals := 35 } : Room).cells ({ frames := 2, cells := 1, slots := 4, locals := 35 } : Room).slots) := by
  refine MetFree.of_bodySF (plainFor_of_name pn_2) hisR ?_
  intro p e s m args below meth c s₁ Bd hml0 hP hK
  obtain ⟨rfl, hZ, hh⟩ := hP
  have hx := Bd.exec
  have hby := Bd.bytes
  have hml : c.maxLocals = 8 := hml0
  have hown : s.vm.findClass "com/example/tidemine/tidemine/PatternTrie" = some m.cls := findClass_of_methodNamed Bd.named
  have hnm := (name_of_methodNamed Bd.named Bd.method).1
  have X0 : Stand p l e ({ frames := 2, cells := 1, slots := 4, locals := 35 } : Room) s m #[(.ref a1), (.int p2), (.int p3), (.int p4)] below meth c s₁ [] 0 0 := Stand.of_body Bd
  have e0 : s₁.heap = h0 := by rw [← hh, Bd.state]; rfl
  have pre0 : ∀ t, Steps p.tables e below (s₁.setTop (mkF m 0 #[.val (.ref a1), .val (.int p2), .val (.int p3), .val (.int p4), .unset, .unset, .unset, .unset] [])) t → Steps p.tables e below (s₁.setTop (entryFrame m #[(.ref a1), (.int p2), (.int p3), (.int p4)] 8)) t := fun t k => castTop (ef_4_f32 m a1 p2 p3 p4) k
  obtain ⟨cq1, q1, q1'⟩ := E_a1.cell
  obtain ⟨_, _, ⟨T1, L1, k1, n1⟩, -, X1, ⟨Lc1, hQ1, l1, y1, z1⟩, st1⟩ := X0.privateBack hx (y := mn_2) hown (mvT hZ (ww hw 35 rfl)) (mvT hZ (ww hw 36 rfl)) (own_selPriv (mvT hZ (ww hw 2 rfl)) (Cond.privateMethod_at (mvP hZ (ww hw 37 rfl) (args := #[]))) (mvT hZ (ww hw 36 rfl)) (by decide)) (Cond.privateMethod_at (mvP hZ (ww hw 37 rfl) (args := #[]))) (mvT hZ (ww hw 38 rfl)) (by decide) (backOf (W := 0) (rm5_3v l Z a0 hw [] a1 p2 p3 p4 bi bf bp bc bn ki kf kp kc kn IL FL PL NL CV s4 k4 t0_ t1_ t2_ t3_ k0_ f0_ k1_ f1_ k2_ f2_ (2 : Int32) h0 E_a1 F_children V_bc F_childCounts V_bn F_items V_bi F_sameEvents V_bf hp hcv hnc V_s4 hb0 hk0 hf0 hb1 hk1 hf1 hb2 hk2 hf2 hat) hZ (ww hw 38 rfl) (ww hw 3 rfl) (by decide) (by decide)) (g := (mkF m 4 #[vR a1, vI p2, vI p3, vI p4, .unset, .unset, .unset, .unset] [iI p4, iI p3, iI p2, iR a1])) rfl (by rw [hml]; rfl) (Steps.refl _) (a := a1) (by rw [e0]; exact q1) q1' (argsL := [(.int p2), (.int p3), (.int p4)]) (rest := []) (lenOf pd_2 rfl) rfl (wz rfl) (hb hby d4_4) (fun _ _ => ⟨rfl, e0, (by decide : 0 + 0 ≤ _), (by decide : 0 + 0 ≤ _)⟩)
  dsimp only [Pt.U, Pt.locs, Pt.cells, Pt.slots] at X1 l1 y1 z1 st1 hQ1
  subst l1 y1 z1
  obtain ⟨rfl, rfl, e1⟩ := hQ1
  try rw [List.append_nil] at X1
  obtain ⟨T2, X2, e2, st2⟩ := gF X1 hx hZ hown (ww hw 22 rfl) e1 F_children (g := (mkF m 10 #[vR a1, vI p2, vI p3, vI p4, vI 2, .unset, .unset, .unset] [iR a1])) rfl rfl (hb hby d4_10)
  obtain ⟨cl3, Ar3, q3, S3, M3, H3, G3⟩ := id V_bc
  have hin4 := inb_of (j := p2) S3 hp
  have hat5 : cl3.slots[(p2).toNatClampNeg]? = some (.ref s4) := Has.at H3 hin4 hcv
  obtain ⟨T6, X6, e6, st6⟩ := gF X2 hx hZ hown (ww hw 24 rfl) e2 F_childCounts (g := (mkF m 18 #[vR a1, vI p2, vI p3, vI p4, vI 2, vR s4, .unset, .unset] [iR a1])) rfl rfl (hb hby d4_18)
  obtain ⟨cl7, Ar7, q7, S7, M7, H7, G7⟩ := id V_bn
  have hin8 := inb_of (j := p2) S7 hp
  have hat9 : cl7.slots[(p2).toNatClampNeg]? = some (.int (3 : Int32)) := Has.at H7 hin8 (by rw [own_bsget, hnc])
  obtain ⟨T10, X10, e10, st10⟩ := gF X6 hx hZ hown (ww hw 13 rfl) e6 F_items (g := (mkF m 33 #[vR a1, vI p2, vI p3, vI p4, vI 2, vR s4, vI 3, .unset] [iR a1])) rfl rfl (hb hby d4_33)
  obtain ⟨cl11, Ar11, q11, S11, M11, H11, G11⟩ := id V_s4
  have hin12 := inb_of (j := (2 : Int32)) S11 ⟨by decide, by decide⟩
  obtain ⟨cl14, Ar14, q14, S14, M14, H14, G14⟩ := id V_bi
  have hin15 := inb_of (j := t2_) S14 hb2
  have hat16 : cl14.slots[(t2_).toNatClampNeg]? = some (.int k2_) := Has.at H14 hin15 (by rw [own_bsget, hk2])
  obtain ⟨T17, X17, e17, st17⟩ := gF X10 hx hZ hown (ww hw 16 rfl) e10 F_sameEvents (g := (mkF m 47 #[vR a1, vI p2, vI p3, vI p4, vI 2, vR s4, vI 3, .unset] [iR a1])) rfl rfl (hb hby d4_47)
  have hin18 := inb_of (j := (2 : Int32)) S11 ⟨by decide, by decide⟩
  obtain ⟨cl20, Ar20, q20, S20, M20, H20, G20⟩ := id V_bf
  have hin21 := inb_of (j := t2_) S20 hb2
  have hat22 : cl20.slots[(t2_).toNatClampNeg]? = some (.int f2_) := Has.at H20 hin21 (by rw [own_bsget, hf2])
  have hin23 := inb_of (j := (2 : Int32)) S11 ⟨by decide, by decide⟩
  obtain ⟨fs, hr, hrun, hended, hW, hsame⟩ := X17.leave (v := some (.int t2_)) (fun h => by rw [Bd.returns] at h; cases h)
  refine ⟨_, _, pre0 _ ?_, hrun, hended, _, _, rfl, ?_, ⟨_, rfl⟩, hW, hsame.mono (by decide) (by decide)⟩
  · refine XS.aloadN X0.here hx rfl (hb hby d4_0) rfl rfl ?_
    refine XS.iloadN X0.here hx rfl (hb hby d4_1) rfl ?_
    refine XS.iloadN X0.here hx rfl (hb hby d4_2) rfl ?_
    refine XS.iloadN X0.here hx rfl (hb hby d4_3) rfl ?_
    refine st1.trans ?_
    refine XS.istore X1.here hx rfl (hb hby d4_7) rfl (l' := #[vR a1, vI p2, vI p3, vI p4, vI 2, .unset, .unset, .unset]) rfl ?_
    refine XS.aloadN X1.here hx rfl (hb hby d4_9) rfl rfl ?_
    refine st2 _ ?_
    refine XS.iloadN X2.here hx rfl (hb hby d4_13) rfl ?_
    refine X2.aaload hx (j := p2) (v := (.ref s4)) (by rw [e2]; exact Ar3.1) (State.isArrayOf_alike hZ.alike Ar3.2.1) rfl Ar3.2.2 hin4 hat5 (g := (mkF m 14 #[vR a1, vI p2, vI p3, vI p4, vI 2, .unset, .unset, .unset] [iI p2, iR bc])) rfl rfl (hb hby d4_14) _ ?_
    refine XS.astore X2.here hx rfl (hb hby d4_15) rfl rfl (l' := #[vR a1, vI p2, vI p3, vI p4, vI 2, vR s4, .unset, .unset]) rfl ?_
    refine XS.aloadN X2.here hx rfl (hb hby d4_17) rfl rfl ?_
    refine st6 _ ?_
    refine XS.iloadN X6.here hx rfl (hb hby d4_21) rfl ?_
    refine X6.iaload hx (j := p2) (v := (.int (3 : Int32))) (by rw [e6]; exact Ar7.1) (State.isArrayOf_alike hZ.alike Ar7.2.1) Ar7.2.2 hin8 hat9 (g := (mkF m 22 #[vR a1, vI p2, vI p3, vI p4, vI 2, vR s4, .unset, .unset] [iI p2, iR bn])) rfl rfl (hb hby d4_22) _ ?_
    refine XS.istore X6.here hx rfl (hb hby d4_23) rfl (l' := #[vR a1, vI p2, vI p3, vI p4, vI 2, vR s4, vI 3, .unset]) rfl ?_
    refine XS.iload X6.here hx rfl (hb hby d4_25) rfl ?_
    refine XS.iload X6.here hx rfl (hb hby d4_27) rfl ?_
    refine XS.icmpNo X6.here hx rfl (hb hby d4_29) rfl (tlt (by decide : (2 : Int32) < (3 : Int32))).2.1 ?_
    refine XS.aloadN X6.here hx rfl (hb hby d4_32) rfl rfl ?_
    refine st10 _ ?_
    refine XS.aload X10.here hx rfl (hb hby d4_36) rfl rfl ?_
    refine XS.iload X10.here hx rfl (hb hby d4_38) rfl ?_
    refine X10.iaload hx (j := (2 : Int32)) (v := (.int t2_)) (by rw [e10]; exact Ar11.1) (State.isArrayOf_alike hZ.alike Ar11.2.1) Ar11.2.2 hin12 (Has.at H11 hin12 rfl) (g := (mkF m 40 #[vR a1, vI p2, vI p3, vI p4, vI 2, vR s4, vI 3, .unset] [iI 2, iR s4, iR bi])) rfl rfl (hb hby d4_40) _ ?_
    refine X10.iaload hx (j := t2_) (v := (.int k2_)) (by rw [e10]; exact Ar14.1) (State.isArrayOf_alike hZ.alike Ar14.2.1) Ar14.2.2 hin15 hat16 (g := (mkF m 41 #[vR a1, vI p2, vI p3, vI p4, vI 2, vR s4, vI 3, .unset] [iI t2_, iR bi])) rfl rfl (hb hby d4_41) _ ?_
    refine XS.iloadN X10.here hx rfl (hb hby d4_42) rfl ?_
    refine XS.icmpNo X10.here hx rfl (hb hby d4_43) rfl (teq hqk).2 ?_
    refine XS.aloadN X10.here hx rfl (hb hby d4_46) rfl rfl ?_
    refine st17 _ ?_
    refine XS.aload X17.here hx rfl (hb hby d4_50) rfl rfl ?_
    refine XS.iload X17.here hx rfl (hb hby d4_52) rfl ?_
    refine X17.iaload hx (j := (2 : Int32)) (v := (.int t2_)) (by rw [e17]; exact Ar11.1) (State.isArrayOf_alike hZ.alike Ar11.2.1) Ar11.2.2 hin18 (Has.at H11 hin18 rfl) (g := (mkF m 54 #[vR a1, vI p2, vI p3, vI p4, vI 2, vR s4, vI 3, .unset] [iI 2, iR s4, iR bf])) rfl rfl (hb hby d4_54) _ ?_
    refine X17.baloadBooleans hx (j := t2_) (v := (.int f2_)) (by rw [e17]; exact Ar20.1) (State.isArrayOf_alike hZ.alike Ar20.2.1) Ar20.2.2 hin21 hat22 (g := (mkF m 55 #[vR a1, vI p2, vI p3, vI p4, vI 2, vR s4, vI 3, .unset] [iI t2_, iR bf])) rfl rfl (hb hby d4_55) _ ?_
    refine XS.iloadN X17.here hx rfl (hb hby d4_56) rfl ?_
    refine XS.icmpNo X17.here hx rfl (hb hby d4_57) rfl (teq hqf).2 ?_
    refine XS.aload X17.here hx rfl (hb hby d4_60) rfl rfl ?_
    refine XS.iload X17.here hx rfl (hb hby d4_62) rfl ?_
    refine X17.iaload hx (j := (2 : Int32)) (v := (.int t2_)) (by rw [e17]; exact Ar11.1) (State.isArrayOf_alike hZ.alike Ar11.2.1) Ar11.2.2 hin23 (Has.at H11 hin23 rfl) (g := (mkF m 64 #[vR a1, vI p2, vI p3, vI p4, vI 2, vR s4, vI 3, .unset] [iI 2, iR s4])) rfl rfl (hb hby d4_64) _ ?_
    show Steps _ _ _ (T17.setTop (mkF m 65 #[vR a1, vI p2, vI p3, vI p4, vI 2, vR s4, vI 3, .unset] [iI t2_])) _
    exact retI X17 hx Bd.returns (hb hby d4_65) hr
  · show Q4_f32 Z a1 p2 p3 p4 bi bf bp bc bn ki kf kp kc kn IL FL PL NL CV s4 k4 t0_ t1_ t2_ t3_ k0_ f0_ k1_ f1_ k2_ f2_ h0 _ T17.heap _
    rw [e17]
    exact ⟨rfl, rfl, rfl⟩
theorem d4_196 : decode prog_23_method_3_code 196 = .ok (.iconst 4, 1) := by decide +kernel
theorem d4_197 : decode prog_23_method_3_code 197 = .ok (.newarray .int, 2) := by decide +kernel
theorem d4_199 : decode prog_23_method_3_code 199 = .ok (.astore 5, 2) := by decide +kernel
theorem d4_201 : decode prog_23_method_3_code 201 = .ok (.goto 22, 3) := by decide +kernel
theorem ef_4_az (m : MethodId) (x0 : Addr) (x1 : Int32) (x2 : Int32) (x3 : Int32) : entryFrame m #[(.ref x0), (.int x1), (.int x2), (.int x3)] 8 = mkF m 0 #[.val (.ref x0), .val (.int x1), .val (.int x2), .val (.int x3), .unset, .unset, .unset, .unset] [] := by first | (simp [entryFrame, mkF, argsToLocals, Value.category]; done) | rfl
def Q4_az (Z : State) (a1 : Addr) (p2 : Int32) (p3 : Int32) (p4 : Int32) (bi bf bp bc bn : Addr) (ki kf kp kc kn : ClassId) (IL FL PL NL : List Int32) (CV : List Value) (sz : Int32) (h0 : Heap) (n0 : Nat) (v : Option Value) (h : Heap) (L : List Loc) : Prop := ∃ (s4 : Addr) (k4 : ClassId), v = some (.int sz) ∧ Fr n0 L ∧ Keep h0 h [a1, bi, bf, bp, bc, bn] ∧ Exa Z h a1 "com/example/tidemine/tidemine/PatternTrie" ∧ Fld Z h a1 "com/example/tidemine/tidemine/PatternTrie" "size" "I" (.int (sz + (1 : Int32))) ∧ Fld Z h a1 "com/example/tidemine/tidemine/PatternTrie" "items" "[I" (.ref bi) ∧ Arv Z h bi ki .int (16 : Int32) (own_bs (IL.set sz.toNatClampNeg p3)) (.int (0 : Int32)) ∧ Fld Z h a1 "com/example/tidemine/tidemine/PatternTrie" "sameEvents" "[Z" (.ref bf) ∧ Arv Z h bf kf .boolean (16 : Int32) (own_bs (FL.set sz.toNatClampNeg p4)) (.int (0 : Int32)) ∧ Fld Z h a1 "com/example/tidemine/tidemine/PatternTrie" "parents" "[I" (.ref bp) ∧ Arv Z h bp kp .int (16 : Int32) (own_bs (PL.set sz.toNatClampNeg p2)) (.int (0 : Int32)) ∧ Fld Z h a1 "com/example/tidemine/tidemine/PatternTrie" "children" "[[I" (.ref bc) ∧ Arv Z h bc kc (.array .int) (16 : Int32) (CV.set p2.toNatClampNeg (.ref s4)) .null ∧ Fld Z h a1 "com/example/tidemine/tidemine/PatternTrie" "childCounts" "[I" (.ref bn) ∧ Arv Z h bn kn .int (16 : Int32) (own_bs (NL.set p2.toNatClampNeg (1 : Int32))) (.int (0 : Int32)) ∧ Arv Z h s4 k4 .int (4 : Int32) [(.int sz), (.int (0 : Int32)), (.int (0 : Int32)), (.int (0 : Int32))] (.int (0 : Int32)) ∧ Exa Z h s4 "[I" ∧ h0.size ≤ s4
theorem rm4_az (l : Launch) (Z : State) (a0 : Array Value) (hw : ∀ d ∈ tables_1, d.before a0 Z = true) (ws : List Jvm.Cond) (a1 : Addr) (p2 : Int32) (p3 : Int32) (p4 : Int32) (bi bf bp bc bn : Addr) (ki kf kp kc kn : ClassId) (IL FL PL NL : List Int32) (CV : List Value) (sz : Int32) (h0 : Heap) (n0 : Nat) (Z0 : n0 ≤ h0.size) (E_a1 : Exa Z h0 a1 "com/example/tidemine/tidemine/PatternTrie") (F_items : Fld Z h0 a1 "com/example/tidemine/tidemine/PatternTrie" "items" "[I" (.ref bi)) (V_bi : Arv Z h0 bi ki .int (16 : Int32) (own_bs IL) (.int (0 : Int32))) (F_sameEvents : Fld Z h0 a1 "com/example/tidemine/tidemine/PatternTrie" "sameEvents" "[Z" (.ref bf)) (V_bf : Arv Z h0 bf kf .boolean (16 : Int32) (own_bs FL) (.int (0 : Int32))) (F_parents : Fld Z h0 a1 "com/example/tidemine/tidemine/PatternTrie" "parents" "[I" (.ref bp)) (V_bp : Arv Z h0 bp kp .int (16 : Int32) (own_bs PL) (.int (0 : Int32))) (F_children : Fld Z h0 a1 "com/example/tidemine/tidemine/PatternTrie" "children" "[[I" (.ref bc)) (V_bc : Arv Z h0 bc kc (.array .int) (16 : Int32) CV .null) (F_childCounts : Fld Z h0 a1 "com/example/tidemine/tidemine/PatternTrie" "childCounts" "[I" (.ref bn)) (V_bn : Arv Z h0 bn kn .int (16 : Int32) (own_bs NL) (.int (0 : Int32))) (hp : ¬ p2 < (0 : Int32) ∧ p2 < (16 : Int32)) (hcv : CV.getD p2.toNatClampNeg .null = .null) (hnc : NL.getD p2.toNatClampNeg 0 = (0 : Int32)) (hat : own_s_z  p3 p4 = (0 : Int32)) (hIL : IL.length = 16) (hFL : FL.length = 16) (hPL : PL.length = 16) (hNL : NL.length = 16) (hCV : CV.length = 16) (hz : ¬ sz < (0 : Int32) ∧ sz < (16 : Int32)) (F_size : Fld Z h0 a1 "com/example/tidemine/tidemine/PatternTrie" "size" "I" (.int sz)) (O_bc : OvrA Z kc .int "[I") (h4 : nar .boolean p4 = p4) (g_a1 : n0 ≤ a1) (g_bi : n0 ≤ bi) (g_bf : n0 ≤ bf) (g_bp : n0 ≤ bp) (g_bc : n0 ≤ bc) (g_bn : n0 ≤ bn) (ne_a1_bi : a1 ≠ bi) (ne_a1_bf : a1 ≠ bf) (ne_a1_bp : a1 ≠ bp) (ne_a1_bc : a1 ≠ bc) (ne_a1_bn : a1 ≠ bn) (ne_bi_bf : bi ≠ bf) (ne_bi_bp : bi ≠ bp) (ne_bi_bc : bi ≠ bc) (ne_bi_bn : bi ≠ bn) (ne_bf_bp : bf ≠ bp) (ne_bf_bc : bf ≠ bc) (ne_bf_bn : bf ≠ bn) (ne_bp_bc : bp ≠ bc) (ne_bp_bn : bp ≠ bn) (ne_bc_bn : bc ≠ bn) :
    MetFree l mn_3 (head1 (Jvm.Cond.code mn_3 prog_23_method_3_code 8 (some .int) :: ws) ({ frames := 2, cells := 1, slots := 4, locals := 35 } : Room)) (fun a U => a = #[(.ref a1), (.int p2), (.int p3), (.int p4)] ∧ Z.Warmed39 U.vm ∧ U.heap = h0) (fun _ _ _ _ _ => True) (fun _ U o U' => ∃ v L, o = .returned v ∧ Q4_az Z a1 p2 p3 p4 bi bf bp bc bn ki kf kp kc kn IL FL PL NL CV sz h0 n0 v U'.heap L ∧ FrameEnd U o U' L ({ frames := 2, cells := 1, slots := 4, locals := 35 } : Room).cells ({ frames := 2, cells := 1, slots := 4, locals := 35 } : Room).slots) := by
  refine MetFree.of_bodySF (plainFor_of_name pn_2) hisR ?_
  intro p e s m args below meth c s₁ Bd hml0 hP hK
  obtain ⟨rfl, hZ, hh⟩ := hP
  have hx := Bd.exec
  have hby := Bd.bytes
  have hml : c.maxLocals = 8 := hml0
  have hown : s.vm.findClass "com/example/tidemine/tidemine/PatternTrie" = some m.cls := findClass_of_methodNamed Bd.named
  have hnm := (name_of_methodNamed Bd.named Bd.method).1
  have X0 : Stand p l e ({ frames := 2, cells := 1, slots := 4, locals := 35 } : Room) s m #[(.ref a1), (.int p2), (.int p3), (.int p4)] below meth c s₁ [] 0 0 := Stand.of_body Bd
  have e0 : s₁.heap = h0 := by rw [← hh, Bd.state]; rfl
  have N0 := Fr.nil n0
  have K0 := Keep.refl h0 [a1, bi, bf, bp, bc, bn]
  have pre0 : ∀ t, Steps p.tables e below (s₁.setTop (mkF m 0 #[.val (.ref a1), .val (.int p2), .val (.int p3), .val (.int p4), .unset, .unset, .unset, .unset] [])) t → Steps p.tables e below (s₁.setTop (entryFrame m #[(.ref a1), (.int p2), (.int p3), (.int p4)] 8)) t := fun t k => castTop (ef_4_az m a1 p2 p3 p4) k
  obtain ⟨cq1, q1, q1'⟩ := E_a1.cell
  obtain ⟨_, _, ⟨T1, L1, k1, n1⟩, -, X1, ⟨Lc1, hQ1, l1, y1, z1⟩, st1⟩ := X0.privateBack hx (y := mn_2) hown (mvT hZ (ww hw 35 rfl)) (mvT hZ (ww hw 36 rfl)) (own_selPriv (mvT hZ (ww hw 2 rfl)) (Cond.privateMethod_at (mvP hZ (ww hw 37 rfl) (args := #[]))) (mvT hZ (ww hw 36 rfl)) (by decide)) (Cond.privateMethod_at (mvP hZ (ww hw 37 rfl) (args := #[]))) (mvT hZ (ww hw 38 rfl)) (by decide) (backOf (W := 0) (rm5_zv l Z a0 hw [] a1 p2 p3 p4 bi bf bp bc bn ki kf kp kc kn IL FL PL NL CV (0 : Int32) h0 E_a1 F_children V_bc F_childCounts V_bn F_items V_bi F_sameEvents V_bf hp hcv hnc  hat) hZ (ww hw 38 rfl) (ww hw 3 rfl) (by decide) (by decide)) (g := (mkF m 4 #[vR a1, vI p2, vI p3, vI p4, .unset, .unset, .unset, .unset] [iI p4, iI p3, iI p2, iR a1])) rfl (by rw [hml]; rfl) (Steps.refl _) (a := a1) (by rw [e0]; exact q1) q1' (argsL := [(.int p2), (.int p3), (.int p4)]) (rest := []) (lenOf pd_2 rfl) rfl (wz rfl) (hb hby d4_4) (fun _ _ => ⟨rfl, e0, (by decide : 0 + 0 ≤ _), (by decide : 0 + 0 ≤ _)⟩)
  dsimp only [Pt.U, Pt.locs, Pt.cells, Pt.slots] at X1 l1 y1 z1 st1 hQ1
  subst l1 y1 z1
  obtain ⟨rfl, rfl, e1⟩ := hQ1
  try rw [List.append_nil] at X1
  obtain ⟨T2, X2, e2, st2⟩ := gF X1 hx hZ hown (ww hw 22 rfl) e1 F_children (g := (mkF m 10 #[vR a1, vI p2, vI p3, vI p4, vI 0, .unset, .unset, .unset] [iR a1])) rfl rfl (hb hby d4_10)
  obtain ⟨cl3, Ar3, q3, S3, M3, H3, G3⟩ := id V_bc
  have hin4 := inb_of (j := p2) S3 hp
  have hat5 : cl3.slots[(p2).toNatClampNeg]? = some .null := Has.at H3 hin4 hcv
  obtain ⟨T6, X6, e6, st6⟩ := gF X2 hx hZ hown (ww hw 24 rfl) e2 F_childCounts (g := (mkF m 18 #[vR a1, vI p2, vI p3, vI p4, vI 0, .val .null, .unset, .unset] [iR a1])) rfl rfl (hb hby d4_18)
  obtain ⟨cl7, Ar7, q7, S7, M7, H7, G7⟩ := id V_bn
  have hin8 := inb_of (j := p2) S7 hp
  have hat9 : cl7.slots[(p2).toNatClampNeg]? = some (.int (0 : Int32)) := Has.at H7 hin8 (by rw [own_bsget, hnc])
  obtain ⟨T10, X10, e10, st10⟩ := gF X6 hx hZ hown (ww hw 10 rfl) e6 F_size (g := (mkF m 67 #[vR a1, vI p2, vI p3, vI p4, vI 0, .val .null, vI 0, .unset] [iR a1])) rfl rfl (hb hby d4_67)
  obtain ⟨T11, X11, e11, st11⟩ := gF X10 hx hZ hown (ww hw 13 rfl) e10 F_items (g := (mkF m 71 #[vR a1, vI p2, vI p3, vI p4, vI 0, .val .null, vI 0, .unset] [iR a1, iI sz])) rfl rfl (hb hby d4_71)
  obtain ⟨cl12, Ar12, q12, S12, M12, H12, G12⟩ := id V_bi
  have hh13 : ¬ (sz = (16 : Int32)) := (fun q => absurd hz.2 (by rw [q]; decide))
  obtain ⟨T14, X14, e14, st14⟩ := gF X11 hx hZ hown (ww hw 10 rfl) e11 F_size (g := (mkF m 156 #[vR a1, vI p2, vI p3, vI p4, vI 0, .val .null, vI 0, .unset] [iR a1, iR a1])) rfl rfl (hb hby d4_156)
  obtain ⟨T15, h15, X15, e15, W15, st15⟩ := putF X14 hx hZ hown (host := "") (Or.inl (ww hw 10 rfl)) Via.refl e14 F_size E_a1 (Or.inl (ww hw 11 rfl)) (ww hw 2 rfl) (ty := .int) (by decide) rfl rfl (g := (mkF m 162 #[vR a1, vI p2, vI p3, vI p4, vI 0, .val .null, vI 0, .unset] [iI (sz + (1 : Int32)), iR a1, iI sz])) rfl rfl (hb hby d4_162)
  have Fw15 := F_size.same W15
  have K15 : Keep h0 h15 [a1, bi, bf, bp, bc, bn] := K0.wr W15 (Or.inl (List.mem_of_getElem? (i := 0) rfl))
  have N15 := Fr.snoc X15 N0 g_a1
  have fk16 := (F_items.other W15 (Or.inr (slot_ne (Or.inl (ww hw 14 rfl)) (Or.inl (ww hw 11 rfl)) (by decide) (t := (.array .int)) (t' := .int) (by decide) (by decide))))
  obtain ⟨T17, X17, e17, st17⟩ := gF X15 hx hZ hown (ww hw 13 rfl) e15 fk16 (g := (mkF m 168 #[vR a1, vI p2, vI p3, vI p4, vI 0, .val .null, vI 0, vI sz] [iR a1])) rfl rfl (hb hby d4_168)
  have fk18 := (V_bi.other W15 (Ne.symm ne_a1_bi))
  obtain ⟨cl19, Ar19, q19, S19, M19, H19, G19⟩ := id fk18
  have hin20 := inb_of (j := sz) S19 hz
  obtain ⟨T21, h21, X21, e21, W21, st21⟩ := stI X17 hx hZ e17 Ar19 (j := sz) hin20 (g := (mkF m 174 #[vR a1, vI p2, vI p3, vI p4, vI 0, .val .null, vI 0, vI sz] [iI p3, iI sz, iR bi])) rfl rfl (hb hby d4_174)
  have V21r := Arv.set Ar19 q19 S19 M19 H19 G19 rfl W21 _ rfl (by rw [List.length_map, hIL]; exact own_in16 hz)
  have V21 : Arv Z h21 bi ki .int (16 : Int32) (own_bs (IL.set sz.toNatClampNeg p3)) (.int (0 : Int32)) := by rw [← own_bsSet]; exact V21r
  have K21 : Keep h0 h21 [a1, bi, bf, bp, bc, bn] := K15.wr W21 (Or.inl (List.mem_of_getElem? (i := 1) rfl))
  have N21 := Fr.snoc X21 N15 g_bi
  have fk22 := ((F_sameEvents.other W15 (Or.inr (slot_ne (Or.inl (ww hw 17 rfl)) (Or.inl (ww hw 11 rfl)) (by decide) (t := (.array .boolean)) (t' := .int) (by decide) (by decide)))).other W21 (Or.inl ne_a1_bi))
  obtain ⟨T23, X23, e23, st23⟩ := gF X21 hx hZ hown (ww hw 16 rfl) e21 fk22 (g := (mkF m 176 #[vR a1, vI p2, vI p3, vI p4, vI 0, .val .null, vI 0, vI sz] [iR a1])) rfl rfl (hb hby d4_176)
  have fk24 := ((V_bf.other W15 (Ne.symm ne_a1_bf)).other W21 (Ne.symm ne_bi_bf))
  obtain ⟨cl25, Ar25, q25, S25, M25, H25, G25⟩ := id fk24
  have hin26 := inb_of (j := sz) S25 hz
  obtain ⟨T27, h27, X27, e27, W27, st27⟩ := stZ X23 hx hZ e23 Ar25 (j := sz) hin26 (g := (mkF m 182 #[vR a1, vI p2, vI p3, vI p4, vI 0, .val .null, vI 0, vI sz] [iI p4, iI sz, iR bf])) rfl rfl (hb hby d4_182)
  have V27r := Arv.set Ar25 q25 S25 M25 H25 G25 (fits_nar_bool _) W27 _ rfl (by rw [List.length_map, hFL]; exact own_in16 hz)
  have V27 : Arv Z h27 bf kf .boolean (16 : Int32) (own_bs (FL.set sz.toNatClampNeg p4)) (.int (0 : Int32)) := by rw [← own_bsSet]; rw [h4] at V27r; exact V27r
  have K27 : Keep h0 h27 [a1, bi, bf, bp, bc, bn] := K21.wr W27 (Or.inl (List.mem_of_getElem? (i := 2) rfl))
  have N27 := Fr.snoc X27 N21 g_bf
  have fk28 := (((F_parents.other W15 (Or.inr (slot_ne (Or.inl (ww hw 19 rfl)) (Or.inl (ww hw 11 rfl)) (by decide) (t := (.array .int)) (t' := .int) (by decide) (by decide)))).other W21 (Or.inl ne_a1_bi)).other W27 (Or.inl ne_a1_bf))
  obtain ⟨T29, X29, e29, st29⟩ := gF X27 hx hZ hown (ww hw 18 rfl) e27 fk28 (g := (mkF m 184 #[vR a1, vI p2, vI p3, vI p4, vI 0, .val .null, vI 0, vI sz] [iR a1])) rfl rfl (hb hby d4_184)
  have fk30 := (((V_bp.other W15 (Ne.symm ne_a1_bp)).other W21 (Ne.symm ne_bi_bp)).other W27 (Ne.symm ne_bf_bp))
  obtain ⟨cl31, Ar31, q31, S31, M31, H31, G31⟩ := id fk30
  have hin32 := inb_of (j := sz) S31 hz
  obtain ⟨T33, h33, X33, e33, W33, st33⟩ := stI X29 hx hZ e29 Ar31 (j := sz) hin32 (g := (mkF m 190 #[vR a1, vI p2, vI p3, vI p4, vI 0, .val .null, vI 0, vI sz] [iI p2, iI sz, iR bp])) rfl rfl (hb hby d4_190)
  have V33r := Arv.set Ar31 q31 S31 M31 H31 G31 rfl W33 _ rfl (by rw [List.length_map, hPL]; exact own_in16 hz)
  have V33 : Arv Z h33 bp kp .int (16 : Int32) (own_bs (PL.set sz.toNatClampNeg p2)) (.int (0 : Int32)) := by rw [← own_bsSet]; exact V33r
  have K33 : Keep h0 h33 [a1, bi, bf, bp, bc, bn] := K27.wr W33 (Or.inl (List.mem_of_getElem? (i := 3) rfl))
  have N33 := Fr.snoc X33 N27 g_bp
  obtain ⟨T34, h34, k34, X34, e34, E34, A34, B34, st34⟩ := newPE X33 hx hZ (ww hw 12 rfl) e33 (g := (mkF m 197 #[vR a1, vI p2, vI p3, vI p4, vI 0, .val .null, vI 0, vI sz] [iI 4])) rfl (hb hby d4_197) rfl (by decide) (cap := 4) (by decide) (by decide) (by decide) (by decide) rfl
  obtain ⟨b34, g34⟩ : ∃ z, z = h33.size := ⟨_, rfl⟩
  rw [← g34] at A34 B34 st34
  have fk35 := ((((E_a1.wr W15).wr W21).wr W27).wr W33)
  have ne_a1_b34 : a1 ≠ b34 := Nat.ne_of_lt (Nat.lt_of_lt_of_le fk35.lt (Nat.le_of_eq g34.symm))
  have fk36 := ((V21.other W27 ne_bi_bf).other W33 ne_bi_bp)
  have ne_bi_b34 : bi ≠ b34 := Nat.ne_of_lt (Nat.lt_of_lt_of_le fk36.lt (Nat.le_of_eq g34.symm))
  have fk37 := (V27.other W33 ne_bf_bp)
  have ne_bf_b34 : bf ≠ b34 := Nat.ne_of_lt (Nat.lt_of_lt_of_le fk37.lt (Nat.le_of_eq g34.symm))
  have ne_bp_b34 : bp ≠ b34 := Nat.ne_of_lt (Nat.lt_of_lt_of_le V33.lt (Nat.le_of_eq g34.symm))
  have fk38 := ((((V_bc.other W15 (Ne.symm ne_a1_bc)).other W21 (Ne.symm ne_bi_bc)).other W27 (Ne.symm ne_bf_bc)).other W33 (Ne.symm ne_bp_bc))
  have ne_bc_b34 : bc ≠ b34 := Nat.ne_of_lt (Nat.lt_of_lt_of_le fk38.lt (Nat.le_of_eq g34.symm))
  have fk39 := ((((V_bn.other W15 (Ne.symm ne_a1_bn)).other W21 (Ne.symm ne_bi_bn)).other W27 (Ne.symm ne_bf_bn)).other W33 (Ne.symm ne_bp_bn))
  have ne_bn_b34 : bn ≠ b34 := Nat.ne_of_lt (Nat.lt_of_lt_of_le fk39.lt (Nat.le_of_eq g34.symm))
  have sz_b34 : h0.size ≤ b34 := Nat.le_trans K33.1 (Nat.le_of_eq g34.symm)
  have g_b34 : n0 ≤ b34 := Nat.le_trans Z0 sz_b34
  have K34 : Keep h0 h34 [a1, bi, bf, bp, bc, bn] := K33.ext E34
  have V34 : Arv Z h34 b34 k34 .int (4 : Int32) [(.int (0 : Int32)), (.int (0 : Int32)), (.int (0 : Int32)), (.int (0 : Int32))] (.int (0 : Int32)) := (Arv.new A34 (by decide)).pad (pad_rep [] (.int (0 : Int32)) 4)
  obtain ⟨T40, h40, L40, X40, e40, N40, K40q, V40q, st40⟩ := cpA X34 hx hZ hown (ww hw 39 rfl) (ww hw 42 rfl) (ww hw 40 rfl) (ww hw 41 rfl) e34 V34 V34 (Or.inl ⟨rfl, rfl⟩) (by decide) (by decide) (by decide) (by decide) (by decide) rfl (Nat.le_of_ble_eq_true rfl) N33 g_b34 (g := (mkF m 238 #[vR a1, vI p2, vI p3, vI p4, vI 0, vR b34, vI 0, vI sz] [iI 0, iI 1, iR b34, iI 0, iR b34])) rfl (by rw [hml]; rfl) rfl (hb hby d4_238) (by decide) (W := 0) (wz rfl) (by decide)
  have K40 : Keep h0 h40 [a1, bi, bf, bp, bc, bn] := Keep.trans K34 K40q (allS (Or.inr sz_b34) all0)
  have V40 : Arv Z h40 b34 k34 .int (4 : Int32) [(.int (0 : Int32)), (.int (0 : Int32)), (.int (0 : Int32)), (.int (0 : Int32))] (.int (0 : Int32)) := V40q
  obtain ⟨cl41, Ar41, q41, S41, M41, H41, G41⟩ := id V40
  have hin42 := inb_of (j := (0 : Int32)) S41 ⟨by decide, by decide⟩
  obtain ⟨T43, h43, X43, e43, W43, st43⟩ := stI X40 hx hZ e40 Ar41 (j := (0 : Int32)) hin42 (g := (mkF m 247 #[vR a1, vI p2, vI p3, vI p4, vI 0, vR b34, vI 0, vI sz] [iI sz, iI 0, iR b34])) rfl rfl (hb hby d4_247)
  have V43 : Arv Z h43 b34 k34 .int (4 : Int32) (own_bs [sz, 0, 0, 0]) (.int (0 : Int32)) := Arv.set Ar41 q41 S41 M41 H41 G41 rfl W43 0 rfl (Nat.le_of_ble_eq_true rfl)
  have K43 : Keep h0 h43 [a1, bi, bf, bp, bc, bn] := K40.wr W43 (Or.inr sz_b34)
  have N43 := Fr.snoc X43 N40 g_b34
  have fk44 := (((((((F_children.other W15 (Or.inr (slot_ne (Or.inl (ww hw 23 rfl)) (Or.inl (ww hw 11 rfl)) (by decide) (t := (.array (.array .int))) (t' := .int) (by decide) (by decide)))).other W21 (Or.inl ne_a1_bi)).other W27 (Or.inl ne_a1_bf)).other W33 (Or.inl ne_a1_bp)).ext E34).keep K40q (ninS ne_a1_b34 nin0)).other W43 (Or.inl ne_a1_b34))
  obtain ⟨T45, X45, e45, st45⟩ := gF X43 hx hZ hown (ww hw 22 rfl) e43 fk44 (g := (mkF m 249 #[vR a1, vI p2, vI p3, vI p4, vI 0, vR b34, vI 0, vI sz] [iR a1])) rfl rfl (hb hby d4_249)
  have fk46 := (((fk38.ext E34).keep K40q (ninS ne_bc_b34 nin0)).other W43 ne_bc_b34)
  obtain ⟨cl47, Ar47, q47, S47, M47, H47, G47⟩ := id fk46
  have hin48 := inb_of (j := p2) S47 hp
  have fk49 := ((B34.keep K40q).wr W43)
  obtain ⟨T50, h50, X50, e50, W50, st50⟩ := stR X45 hx hZ e45 Ar47 (j := p2) (v := (.ref b34)) hin48 rfl (Sto.ofVA Ar47 q47 O_bc (Ins.self fk49)) (g := (mkF m 255 #[vR a1, vI p2, vI p3, vI p4, vI 0, vR b34, vI 0, vI sz] [iR b34, iI p2, iR bc])) rfl rfl (hb hby d4_255)
  have V50 : Arv Z h50 bc kc (.array .int) (16 : Int32) (CV.set p2.toNatClampNeg (.ref b34)) .null := Arv.set Ar47 q47 S47 M47 H47 G47 rfl W50 _ rfl (by rw [hCV]; exact own_in16 hp)
  have K50 : Keep h0 h50 [a1, bi, bf, bp, bc, bn] := K43.wr W50 (Or.inl (List.mem_of_getElem? (i := 4) rfl))
  have N50 := Fr.snoc X50 N43 g_bc
  have fk51 := ((((((((F_childCounts.other W15 (Or.inr (slot_ne (Or.inl (ww hw 25 rfl)) (Or.inl (ww hw 11 rfl)) (by decide) (t := (.array .int)) (t' := .int) (by decide) (by decide)))).other W21 (Or.inl ne_a1_bi)).other W27 (Or.inl ne_a1_bf)).other W33 (Or.inl ne_a1_bp)).ext E34).keep K40q (ninS ne_a1_b34 nin0)).other W43 (Or.inl ne_a1_b34)).other W50 (Or.inl ne_a1_bc))
  obtain ⟨T52, X52, e52, st52⟩ := gF X50 hx hZ hown (ww hw 24 rfl) e50 fk51 (g := (mkF m 257 #[vR a1, vI p2, vI p3, vI p4, vI 0, vR b34, vI 0, vI sz] [iR a1])) rfl rfl (hb hby d4_257)
  have fk53 := ((((fk39.ext E34).keep K40q (ninS ne_bn_b34 nin0)).other W43 ne_bn_b34).other W50 (Ne.symm ne_bc_bn))
  obtain ⟨cl54, Ar54, q54, S54, M54, H54, G54⟩ := id fk53
  have hin55 := inb_of (j := p2) S54 hp
  obtain ⟨T56, h56, X56, e56, W56, st56⟩ := stI X52 hx hZ e52 Ar54 (j := p2) hin55 (g := (mkF m 265 #[vR a1, vI p2, vI p3, vI p4, vI 0, vR b34, vI 0, vI sz] [iI 1, iI p2, iR bn])) rfl rfl (hb hby d4_265)
  have V56r := Arv.set Ar54 q54 S54 M54 H54 G54 rfl W56 _ rfl (by rw [List.length_map, hNL]; exact own_in16 hp)
  have V56 : Arv Z h56 bn kn .int (16 : Int32) (own_bs (NL.set p2.toNatClampNeg (1 : Int32))) (.int (0 : Int32)) := by rw [← own_bsSet]; exact V56r
  have K56 : Keep h0 h56 [a1, bi, bf, bp, bc, bn] := K50.wr W56 (Or.inl (List.mem_of_getElem? (i := 5) rfl))
  have N56 := Fr.snoc X56 N50 g_bn
  obtain ⟨fs, hr, hrun, hended, hW, hsame⟩ := X56.leave (v := some (.int sz)) (fun h => by rw [Bd.returns] at h; cases h)
  have fk57 := (((((fk35.ext E34).keep K40q).wr W43).wr W50).wr W56)
  have fk58 := ((((((((Fw15.other W21 (Or.inl ne_a1_bi)).other W27 (Or.inl ne_a1_bf)).other W33 (Or.inl ne_a1_bp)).ext E34).keep K40q (ninS ne_a1_b34 nin0)).other W43 (Or.inl ne_a1_b34)).other W50 (Or.inl ne_a1_bc)).other W56 (Or.inl ne_a1_bn))
  have fk59 := ((((((((fk16.other W21 (Or.inl ne_a1_bi)).other W27 (Or.inl ne_a1_bf)).other W33 (Or.inl ne_a1_bp)).ext E34).keep K40q (ninS ne_a1_b34 nin0)).other W43 (Or.inl ne_a1_b34)).other W50 (Or.inl ne_a1_bc)).other W56 (Or.inl ne_a1_bn))
  have fk60 := (((((fk36.ext E34).keep K40q (ninS ne_bi_b34 nin0)).other W43 ne_bi_b34).other W50 ne_bi_bc).other W56 ne_bi_bn)
  have fk61 := (((((((fk22.other W27 (Or.inl ne_a1_bf)).other W33 (Or.inl ne_a1_bp)).ext E34).keep K40q (ninS ne_a1_b34 nin0)).other W43 (Or.inl ne_a1_b34)).other W50 (Or.inl ne_a1_bc)).other W56 (Or.inl ne_a1_bn))
  have fk62 := (((((fk37.ext E34).keep K40q (ninS ne_bf_b34 nin0)).other W43 ne_bf_b34).other W50 ne_bf_bc).other W56 ne_bf_bn)
  have fk63 := ((((((fk28.other W33 (Or.inl ne_a1_bp)).ext E34).keep K40q (ninS ne_a1_b34 nin0)).other W43 (Or.inl ne_a1_b34)).other W50 (Or.inl ne_a1_bc)).other W56 (Or.inl ne_a1_bn))
  have fk64 := (((((V33.ext E34).keep K40q (ninS ne_bp_b34 nin0)).other W43 ne_bp_b34).other W50 ne_bp_bc).other W56 ne_bp_bn)
  have fk65 := ((fk44.other W50 (Or.inl ne_a1_bc)).other W56 (Or.inl ne_a1_bn))
  have fk66 := (V50.other W56 ne_bc_bn)
  have fk67 := (fk51.other W56 (Or.inl ne_a1_bn))
  have fk68 := ((V43.other W50 (Ne.symm ne_bc_b34)).other W56 (Ne.symm ne_bn_b34))
  have fk69 := ((fk49.wr W50).wr W56)
  refine ⟨_, _, pre0 _ ?_, hrun, hended, _, _, rfl, ?_, ⟨_, rfl⟩, hW, hsame.mono (by decide) (by decide)⟩
  · refine XS.aloadN X0.here hx rfl (hb hby d4_0) rfl rfl ?_
    refine XS.iloadN X0.here hx rfl (hb hby d4_1) rfl ?_
    refine XS.iloadN X0.here hx rfl (hb hby d4_2) rfl ?_
    refine XS.iloadN X0.here hx rfl (hb hby d4_3) rfl ?_
    refine st1.trans ?_
    refine XS.istore X1.here hx rfl (hb hby d4_7) rfl (l' := #[vR a1, vI p2, vI p3, vI p4, vI 0, .unset, .unset, .unset]) rfl ?_
    refine XS.aloadN X1.here hx rfl (hb hby d4_9) rfl rfl ?_
    refine st2 _ ?_
    refine XS.iloadN X2.here hx rfl (hb hby d4_13) rfl ?_
    refine X2.aaload hx (j := p2) (v := .null) (by rw [e2]; exact Ar3.1) (State.isArrayOf_alike hZ.alike Ar3.2.1) rfl Ar3.2.2 hin4 hat5 (g := (mkF m 14 #[vR a1, vI p2, vI p3, vI p4, vI 0, .unset, .unset, .unset] [iI p2, iR bc])) rfl rfl (hb hby d4_14) _ ?_
    refine XS.astore X2.here hx rfl (hb hby d4_15) rfl rfl (l' := #[vR a1, vI p2, vI p3, vI p4, vI 0, .val .null, .unset, .unset]) rfl ?_
    refine XS.aloadN X2.here hx rfl (hb hby d4_17) rfl rfl ?_
    refine st6 _ ?_
    refine XS.iloadN X6.here hx rfl (hb hby d4_21) rfl ?_
    refine X6.iaload hx (j := p2) (v := (.int (0 : Int32))) (by rw [e6]; exact Ar7.1) (State.isArrayOf_alike hZ.alike Ar7.2.1) Ar7.2.2 hin8 hat9 (g := (mkF m 22 #[vR a1, vI p2, vI p3, vI p4, vI 0, .val .null, .unset, .unset] [iI p2, iR bn])) rfl rfl (hb hby d4_22) _ ?_
    refine XS.istore X6.here hx rfl (hb hby d4_23) rfl (l' := #[vR a1, vI p2, vI p3, vI p4, vI 0, .val .null, vI 0, .unset]) rfl ?_
    refine XS.iload X6.here hx rfl (hb hby d4_25) rfl ?_
    refine XS.iload X6.here hx rfl (hb hby d4_27) rfl ?_
    refine XS.icmpYes X6.here hx rfl (pc0 := 29) (pc' := 66) rfl (hb hby d4_29) rfl (flt (by decide : ¬ ((0 : Int32) < (0 : Int32)))).2.1 (by decide) (by decide) ?_
    refine XS.aloadN X6.here hx rfl (hb hby d4_66) rfl rfl ?_
    refine st10 _ ?_
    refine XS.aloadN X10.here hx rfl (hb hby d4_70) rfl rfl ?_
    refine st11 _ ?_
    refine X11.arraylength hx (by rw [e11]; exact Ar12.1) (State.isArrayOf_alike hZ.alike Ar12.2.1) (g := (mkF m 74 #[vR a1, vI p2, vI p3, vI p4, vI 0, .val .null, vI 0, .unset] [iR bi, iI sz])) rfl rfl (hb hby d4_74) _ ?_
    rw [len_of S12 M12]
    refine XS.icmpYes X11.here hx rfl (pc0 := 75) (pc' := 154) rfl (hb hby d4_75) rfl (feq hh13).2 (by decide) (by decide) ?_
    refine XS.aloadN X11.here hx rfl (hb hby d4_154) rfl rfl ?_
    refine XS.dup X11.here hx rfl (hb hby d4_155) rfl rfl ?_
    refine st14 _ ?_
    refine XS.dupX1 X14.here hx rfl (hb hby d4_159) rfl rfl rfl ?_
    refine XS.iconst X14.here hx rfl (hb hby d4_160) ?_
    refine XS.iadd X14.here hx rfl (hb hby d4_161) rfl ?_
    refine st15 _ ?_
    refine XS.istore X15.here hx rfl (hb hby d4_165) rfl (l' := #[vR a1, vI p2, vI p3, vI p4, vI 0, .val .null, vI 0, vI sz]) rfl ?_
    refine XS.aloadN X15.here hx rfl (hb hby d4_167) rfl rfl ?_
    refine st17 _ ?_
    refine XS.iload X17.here hx rfl (hb hby d4_171) rfl ?_
    refine XS.iloadN X17.here hx rfl (hb hby d4_173) rfl ?_
    refine st21 _ ?_
    refine XS.aloadN X21.here hx rfl (hb hby d4_175) rfl rfl ?_
    refine st23 _ ?_
    refine XS.iload X23.here hx rfl (hb hby d4_179) rfl ?_
    refine XS.iloadN X23.here hx rfl (hb hby d4_181) rfl ?_
    refine st27 _ ?_
    refine XS.aloadN X27.here hx rfl (hb hby d4_183) rfl rfl ?_
    refine st29 _ ?_
    refine XS.iload X29.here hx rfl (hb hby d4_187) rfl ?_
    refine XS.iloadN X29.here hx rfl (hb hby d4_189) rfl ?_
    refine st33 _ ?_
    refine XS.aload X33.here hx rfl (hb hby d4_191) rfl rfl ?_
    refine XS.ifnonnullNo X33.here hx rfl (hb hby d4_193) rfl ?_
    refine XS.iconst X33.here hx rfl (hb hby d4_196) ?_
    refine st34 _ ?_
    refine XS.astore X34.here hx rfl (hb hby d4_199) rfl rfl (l' := #[vR a1, vI p2, vI p3, vI p4, vI 0, vR b34, vI 0, vI sz]) rfl ?_
    refine XS.goto X34.here hx rfl (pc0 := 201) (pc' := 223) rfl (hb hby d4_201) (by decide) (by decide) ?_
    refine XS.aload X34.here hx rfl (hb hby d4_223) rfl rfl ?_
    refine XS.iload X34.here hx rfl (hb hby d4_225) rfl ?_
    refine XS.aload X34.here hx rfl (hb hby d4_227) rfl rfl ?_
    refine XS.iload X34.here hx rfl (hb hby d4_229) rfl ?_
    refine XS.iconst X34.here hx rfl (hb hby d4_231) ?_
    refine XS.iadd X34.here hx rfl (hb hby d4_232) rfl ?_
    show SA T34 m 233 #[vR a1, vI p2, vI p3, vI p4, vI 0, vR b34, vI 0, vI sz] [iI ((0 : Int32) + (1 : Int32)), iR b34, iI 0, iR b34]
    rw [(by decide : ((0 : Int32) + (1 : Int32)) = (1 : Int32))]
    refine XS.iload X34.here hx rfl (hb hby d4_233) rfl ?_
    refine XS.iload X34.here hx rfl (hb hby d4_235) rfl ?_
    refine XS.isub X34.here hx rfl (hb hby d4_237) rfl ?_
    show SA T34 m 238 #[vR a1, vI p2, vI p3, vI p4, vI 0, vR b34, vI 0, vI sz] [iI ((0 : Int32) - (0 : Int32)), iI 1, iR b34, iI 0, iR b34]
    rw [(by decide : ((0 : Int32) - (0 : Int32)) = (0 : Int32))]
    refine st40 _ ?_
    refine XS.aload X40.here hx rfl (hb hby d4_241) rfl rfl ?_
    refine XS.iload X40.here hx rfl (hb hby d4_243) rfl ?_
    refine XS.iload X40.here hx rfl (hb hby d4_245) rfl ?_
    refine st43 _ ?_
    refine XS.aloadN X43.here hx rfl (hb hby d4_248) rfl rfl ?_
    refine st45 _ ?_
    refine XS.iloadN X45.here hx rfl (hb hby d4_252) rfl ?_
    refine XS.aload X45.here hx rfl (hb hby d4_253) rfl rfl ?_
    refine st50 _ ?_
    refine XS.aloadN X50.here hx rfl (hb hby d4_256) rfl rfl ?_
    refine st52 _ ?_
    refine XS.iloadN X52.here hx rfl (hb hby d4_260) rfl ?_
    refine XS.iload X52.here hx rfl (hb hby d4_261) rfl ?_
    refine XS.iconst X52.here hx rfl (hb hby d4_263) ?_
    refine XS.iadd X52.here hx rfl (hb hby d4_264) rfl ?_
    show SA T52 m 265 #[vR a1, vI p2, vI p3, vI p4, vI 0, vR b34, vI 0, vI sz] [iI ((0 : Int32) + (1 : Int32)), iI p2, iR bn]
    rw [(by decide : ((0 : Int32) + (1 : Int32)) = (1 : Int32))]
    refine st56 _ ?_
    refine XS.iload X56.here hx rfl (hb hby d4_266) rfl ?_
    show Steps _ _ _ (T56.setTop (mkF m 268 #[vR a1, vI p2, vI p3, vI p4, vI 0, vR b34, vI 0, vI sz] [iI sz])) _
    exact retI X56 hx Bd.returns (hb hby d4_268) hr
  · show Q4_az Z a1 p2 p3 p4 bi bf bp bc bn ki kf kp kc kn IL FL PL NL CV sz h0 n0 _ T56.heap _
    rw [e56]
    exact ⟨_, _, rfl, N56, K56, fk57, fk58, fk59, fk60, fk61, fk62, fk63, fk64, fk65, fk66, fk67, V56, fk68, fk69, sz_b34⟩
theorem ef_4_a00 (m : MethodId) (x0 : Addr) (x1 : Int32) (x2 : Int32) (x3 : Int32) : entryFrame m #[(.ref x0), (.int x1), (.int x2), (.int x3)] 8 = mkF m 0 #[.val (.ref x0), .val (.int x1), .val (.int x2), .val (.int x3), .unset, .unset, .unset, .unset] [] := by first | (simp [entryFrame, mkF, argsToLocals, Value.category]; done) | rfl
def Q4_a00 (Z : State) (a1 : Addr) (p2 : Int32) (p3 : Int32) (p4 : Int32) (bi bf bp bc bn : Addr) (ki kf kp kc kn : ClassId) (IL FL PL NL : List Int32) (CV : List Value) (s4 : Addr) (k4 : ClassId) (t0_ t1_ t2_ t3_ : Int32) (sz : Int32) (h0 : Heap) (n0 : Nat) (v : Option Value) (h : Heap) (L : List Loc) : Prop := own_Q4t Z a1 p2 p3 p4 bi bf bp bc bn ki kf kp kc kn IL FL PL NL CV s4 k4 (1 : Int32) sz [(.int sz), (.int t1_), (.int t2_), (.int t3_)] h0 n0 v h L
theorem rm4_a00 (l : Launch) (Z : State) (a0 : Array Value) (hw : ∀ d ∈ tables_1, d.before a0 Z = true) (ws : List Jvm.Cond) (a1 : Addr) (p2 : Int32) (p3 : Int32) (p4 : Int32) (bi bf bp bc bn : Addr) (ki kf kp kc kn : ClassId) (IL FL PL NL : List Int32) (CV : List Value) (s4 : Addr) (k4 : ClassId) (t0_ t1_ t2_ t3_ : Int32) (sz : Int32) (h0 : Heap) (n0 : Nat) (Z0 : n0 ≤ h0.size) (E_a1 : Exa Z h0 a1 "com/example/tidemine/tidemine/PatternTrie") (F_items : Fld Z h0 a1 "com/example/tidemine/tidemine/PatternTrie" "items" "[I" (.ref bi)) (V_bi : Arv Z h0 bi ki .int (16 : Int32) (own_bs IL) (.int (0 : Int32))) (F_sameEvents : Fld Z h0 a1 "com/example/tidemine/tidemine/PatternTrie" "sameEvents" "[Z" (.ref bf)) (V_bf : Arv Z h0 bf kf .boolean (16 : Int32) (own_bs FL) (.int (0 : Int32))) (F_parents : Fld Z h0 a1 "com/example/tidemine/tidemine/PatternTrie" "parents" "[I" (.ref bp)) (V_bp : Arv Z h0 bp kp .int (16 : Int32) (own_bs PL) (.int (0 : Int32))) (F_children : Fld Z h0 a1 "com/example/tidemine/tidemine/PatternTrie" "children" "[[I" (.ref bc)) (V_bc : Arv Z h0 bc kc (.array .int) (16 : Int32) CV .null) (F_childCounts : Fld Z h0 a1 "com/example/tidemine/tidemine/PatternTrie" "childCounts" "[I" (.ref bn)) (V_bn : Arv Z h0 bn kn .int (16 : Int32) (own_bs NL) (.int (0 : Int32))) (hp : ¬ p2 < (0 : Int32) ∧ p2 < (16 : Int32)) (hcv : CV.getD p2.toNatClampNeg .null = .ref s4) (hnc : NL.getD p2.toNatClampNeg 0 = (0 : Int32)) (V_s4 : Arv Z h0 s4 k4 .int (4 : Int32) [(.int t0_), (.int t1_), (.int t2_), (.int t3_)] (.int (0 : Int32))) (hat : own_s_0  p3 p4 = (0 : Int32)) (hIL : IL.length = 16) (hFL : FL.length = 16) (hPL : PL.length = 16) (hNL : NL.length = 16) (hCV : CV.length = 16) (hz : ¬ sz < (0 : Int32) ∧ sz < (16 : Int32)) (F_size : Fld Z h0 a1 "com/example/tidemine/tidemine/PatternTrie" "size" "I" (.int sz)) (O_bc : OvrA Z kc .int "[I") (h4 : nar .boolean p4 = p4) (g_a1 : n0 ≤ a1) (g_bi : n0 ≤ bi) (g_bf : n0 ≤ bf) (g_bp : n0 ≤ bp) (g_bc : n0 ≤ bc) (g_bn : n0 ≤ bn) (g_s4 : n0 ≤ s4) (ne_a1_bi : a1 ≠ bi) (ne_a1_bf : a1 ≠ bf) (ne_a1_bp : a1 ≠ bp) (ne_a1_bc : a1 ≠ bc) (ne_a1_bn : a1 ≠ bn) (ne_a1_s4 : a1 ≠ s4) (ne_bi_bf : bi ≠ bf) (ne_bi_bp : bi ≠ bp) (ne_bi_bc : bi ≠ bc) (ne_bi_bn : bi ≠ bn) (ne_bi_s4 : bi ≠ s4) (ne_bf_bp : bf ≠ bp) (ne_bf_bc : bf ≠ bc) (ne_bf_bn : bf ≠ bn) (ne_bf_s4 : bf ≠ s4) (ne_bp_bc : bp ≠ bc) (ne_bp_bn : bp ≠ bn) (ne_bp_s4 : bp ≠ s4) (ne_bc_bn : bc ≠ bn) (ne_bc_s4 : bc ≠ s4) (ne_bn_s4 : bn ≠ s4) (E_s4 : Exa Z h0 s4 "[I") :
    MetFree l mn_3 (head1 (Jvm.Cond.code mn_3 prog_23_method_3_code 8 (some .int) :: ws) ({ frames := 2, cells := 1, slots := 4, locals := 35 } : Room)) (fun a U => a = #[(.ref a1), (.int p2), (.int p3), (.int p4)] ∧ Z.Warmed39 U.vm ∧ U.heap = h0) (fun _ _ _ _ _ => True) (fun _ U o U' => ∃ v L, o = .returned v ∧ Q4_a00 Z a1 p2 p3 p4 bi bf bp bc bn ki kf kp kc kn IL FL PL NL CV s4 k4 t0_ t1_ t2_ t3_ sz h0 n0 v U'.heap L ∧ FrameEnd U o U' L ({ frames := 2, cells := 1, slots := 4, locals := 35 } : Room).cells ({ frames := 2, cells := 1, slots := 4, locals := 35 } : Room).slots) := by
  refine MetFree.of_bodySF (plainFor_of_name pn_2) hisR ?_
  intro p e s m args below meth c s₁ Bd hml0 hP hK
  obtain ⟨rfl, hZ, hh⟩ := hP
  have hx := Bd.exec
  have hby := Bd.bytes
  have hml : c.maxLocals = 8 := hml0
  have hown : s.vm.findClass "com/example/tidemine/tidemine/PatternTrie" = some m.cls := findClass_of_methodNamed Bd.named
  have hnm := (name_of_methodNamed Bd.named Bd.method).1
  have X0 : Stand p l e ({ frames := 2, cells := 1, slots := 4, locals := 35 } : Room) s m #[(.ref a1), (.int p2), (.int p3), (.int p4)] below meth c s₁ [] 0 0 := Stand.of_body Bd
  have e0 : s₁.heap = h0 := by rw [← hh, Bd.state]; rfl
  have N0 := Fr.nil n0
  have K0 := Keep.refl h0 [a1, bi, bf, bp, bc, bn, s4]
  have pre0 : ∀ t, Steps p.tables e below (s₁.setTop (mkF m 0 #[.val (.ref a1), .val (.int p2), .val (.int p3), .val (.int p4), .unset, .unset, .unset, .unset] [])) t → Steps p.tables e below (s₁.setTop (entryFrame m #[(.ref a1), (.int p2), (.int p3), (.int p4)] 8)) t := fun t k => castTop (ef_4_a00 m a1 p2 p3 p4) k
  obtain ⟨cq1, q1, q1'⟩ := E_a1.cell
  obtain ⟨_, _, ⟨T1, L1, k1, n1⟩, -, X1, ⟨Lc1, hQ1, l1, y1, z1⟩, st1⟩ := X0.privateBack hx (y := mn_2) hown (mvT hZ (ww hw 35 rfl)) (mvT hZ (ww hw 36 rfl)) (own_selPriv (mvT hZ (ww hw 2 rfl)) (Cond.privateMethod_at (mvP hZ (ww hw 37 rfl) (args := #[]))) (mvT hZ (ww hw 36 rfl)) (by decide)) (Cond.privateMethod_at (mvP hZ (ww hw 37 rfl) (args := #[]))) (mvT hZ (ww hw 38 rfl)) (by decide) (backOf (W := 0) (rm5_0v l Z a0 hw [] a1 p2 p3 p4 bi bf bp bc bn ki kf kp kc kn IL FL PL NL CV s4 k4 t0_ t1_ t2_ t3_ (0 : Int32) h0 E_a1 F_children V_bc F_childCounts V_bn F_items V_bi F_sameEvents V_bf hp hcv hnc V_s4  hat) hZ (ww hw 38 rfl) (ww hw 3 rfl) (by decide) (by decide)) (g := (mkF m 4 #[vR a1, vI p2, vI p3, vI p4, .unset, .unset, .unset, .unset] [iI p4, iI p3, iI p2, iR a1])) rfl (by rw [hml]; rfl) (Steps.refl _) (a := a1) (by rw [e0]; exact q1) q1' (argsL := [(.int p2), (.int p3), (.int p4)]) (rest := []) (lenOf pd_2 rfl) rfl (wz rfl) (hb hby d4_4) (fun _ _ => ⟨rfl, e0, (by decide : 0 + 0 ≤ _), (by decide : 0 + 0 ≤ _)⟩)
  dsimp only [Pt.U, Pt.locs, Pt.cells, Pt.slots] at X1 l1 y1 z1 st1 hQ1
  subst l1 y1 z1
  obtain ⟨rfl, rfl, e1⟩ := hQ1
  try rw [List.append_nil] at X1
  obtain ⟨T2, X2, e2, st2⟩ := gF X1 hx hZ hown (ww hw 22 rfl) e1 F_children (g := (mkF m 10 #[vR a1, vI p2, vI p3, vI p4, vI 0, .unset, .unset, .unset] [iR a1])) rfl rfl (hb hby d4_10)
  obtain ⟨cl3, Ar3, q3, S3, M3, H3, G3⟩ := id V_bc
  have hin4 := inb_of (j := p2) S3 hp
  have hat5 : cl3.slots[(p2).toNatClampNeg]? = some (.ref s4) := Has.at H3 hin4 hcv
  obtain ⟨T6, X6, e6, st6⟩ := gF X2 hx hZ hown (ww hw 24 rfl) e2 F_childCounts (g := (mkF m 18 #[vR a1, vI p2, vI p3, vI p4, vI 0, vR s4, .unset, .unset] [iR a1])) rfl rfl (hb hby d4_18)
  obtain ⟨cl7, Ar7, q7, S7, M7, H7, G7⟩ := id V_bn
  have hin8 := inb_of (j := p2) S7 hp
  have hat9 : cl7.slots[(p2).toNatClampNeg]? = some (.int (0 : Int32)) := Has.at H7 hin8 (by rw [own_bsget, hnc])
  have pre10 : ∀ t, Steps p.tables e below (T6.setTop (mkF m 66 #[vR a1, vI p2, vI p3, vI p4, vI 0, vR s4, vI 0, .unset] [])) t → Steps p.tables e below (s₁.setTop (entryFrame m #[(.ref a1), (.int p2), (.int p3), (.int p4)] 8)) t := by
    intro t kt
    refine pre0 t ?_
    refine XS.aloadN X0.here hx rfl (hb hby d4_0) rfl rfl ?_
    refine XS.iloadN X0.here hx rfl (hb hby d4_1) rfl ?_
    refine XS.iloadN X0.here hx rfl (hb hby d4_2) rfl ?_
    refine XS.iloadN X0.here hx rfl (hb hby d4_3) rfl ?_
    refine st1.trans ?_
    refine XS.istore X1.here hx rfl (hb hby d4_7) rfl (l' := #[vR a1, vI p2, vI p3, vI p4, vI 0, .unset, .unset, .unset]) rfl ?_
    refine XS.aloadN X1.here hx rfl (hb hby d4_9) rfl rfl ?_
    refine st2 _ ?_
    refine XS.iloadN X2.here hx rfl (hb hby d4_13) rfl ?_
    refine X2.aaload hx (j := p2) (v := (.ref s4)) (by rw [e2]; exact Ar3.1) (State.isArrayOf_alike hZ.alike Ar3.2.1) rfl Ar3.2.2 hin4 hat5 (g := (mkF m 14 #[vR a1, vI p2, vI p3, vI p4, vI 0, .unset, .unset, .unset] [iI p2, iR bc])) rfl rfl (hb hby d4_14) _ ?_
    refine XS.astore X2.here hx rfl (hb hby d4_15) rfl rfl (l' := #[vR a1, vI p2, vI p3, vI p4, vI 0, vR s4, .unset, .unset]) rfl ?_
    refine XS.aloadN X2.here hx rfl (hb hby d4_17) rfl rfl ?_
    refine st6 _ ?_
    refine XS.iloadN X6.here hx rfl (hb hby d4_21) rfl ?_
    refine X6.iaload hx (j := p2) (v := (.int (0 : Int32))) (by rw [e6]; exact Ar7.1) (State.isArrayOf_alike hZ.alike Ar7.2.1) Ar7.2.2 hin8 hat9 (g := (mkF m 22 #[vR a1, vI p2, vI p3, vI p4, vI 0, vR s4, .unset, .unset] [iI p2, iR bn])) rfl rfl (hb hby d4_22) _ ?_
    refine XS.istore X6.here hx rfl (hb hby d4_23) rfl (l' := #[vR a1, vI p2, vI p3, vI p4, vI 0, vR s4, vI 0, .unset]) rfl ?_
    refine XS.iload X6.here hx rfl (hb hby d4_25) rfl ?_
    refine XS.iload X6.here hx rfl (hb hby d4_27) rfl ?_
    refine XS.icmpYes X6.here hx rfl (pc0 := 29) (pc' := 66) rfl (hb hby d4_29) rfl (flt (by decide : ¬ ((0 : Int32) < (0 : Int32)))).2.1 (by decide) (by decide) ?_
    exact kt
  obtain ⟨s₂, o₂, hs₂, hr₂⟩ := own_t4 (IL := IL) (FL := FL) (PL := PL) (NL := NL) (CV := CV) (SL := [t0_, t1_, t2_, t3_]) (at_ := (0 : Int32)) (c_ := (0 : Int32)) (c1_ := (1 : Int32)) (FIN := [(.int sz), (.int t1_), (.int t2_), (.int t3_)]) X6 hx hZ hw hby hml hown Bd.returns (by first | assumption | exact BodyLoose.notSynchronized (by assumption) | exact Body.notSynchronized (by assumption)) e6 K0 N0 Z0 E_a1 F_items V_bi F_sameEvents V_bf F_parents V_bp F_children V_bc F_childCounts V_bn hp V_s4 hIL hFL hPL hNL hCV hz F_size O_bc h4 g_a1 g_bi g_bf g_bp g_bc g_bn g_s4 ne_a1_bi ne_a1_bf ne_a1_bp ne_a1_bc ne_a1_bn ne_a1_s4 ne_bi_bf ne_bi_bp ne_bi_bc ne_bi_bn ne_bi_s4 ne_bf_bp ne_bf_bc ne_bf_bn ne_bf_s4 ne_bp_bc ne_bp_bn ne_bp_s4 ne_bc_bn ne_bc_s4 ne_bn_s4 E_s4 (by decide) (by decide) (by decide) (by decide) (by decide) (by decide) (by decide) rfl (Nat.le_of_ble_eq_true rfl) (by decide) rfl
  exact ⟨s₂, o₂, pre10 _ hs₂, hr₂⟩
theorem ef_4_a10 (m : MethodId) (x0 : Addr) (x1 : Int32) (x2 : Int32) (x3 : Int32) : entryFrame m #[(.ref x0), (.int x1), (.int x2), (.int x3)] 8 = mkF m 0 #[.val (.ref x0), .val (.int x1), .val (.int x2), .val (.int x3), .unset, .unset, .unset, .unset] [] := by first | (simp [entryFrame, mkF, argsToLocals, Value.category]; done) | rfl
def Q4_a10 (Z : State) (a1 : Addr) (p2 : Int32) (p3 : Int32) (p4 : Int32) (bi bf bp bc bn : Addr) (ki kf kp kc kn : ClassId) (IL FL PL NL : List Int32) (CV : List Value) (s4 : Addr) (k4 : ClassId) (t0_ t1_ t2_ t3_ : Int32) (k0_ f0_ : Int32) (sz : Int32) (h0 : Heap) (n0 : Nat) (v : Option Value) (h : Heap) (L : List Loc) : Prop := own_Q4t Z a1 p2 p3 p4 bi bf bp bc bn ki kf kp kc kn IL FL PL NL CV s4 k4 (2 : Int32) sz [(.int sz), (.int t0_), (.int t2_), (.int t3_)] h0 n0 v h L
theorem rm4_a10 (l : Launch) (Z : State) (a0 : Array Value) (hw : ∀ d ∈ tables_1, d.before a0 Z = true) (ws : List Jvm.Cond) (a1 : Addr) (p2 : Int32) (p3 : Int32) (p4 : Int32) (bi bf bp bc bn : Addr) (ki kf kp kc kn : ClassId) (IL FL PL NL : List Int32) (CV : List Value) (s4 : Addr) (k4 : ClassId) (t0_ t1_ t2_ t3_ : Int32) (k0_ f0_ : Int32) (sz : Int32) (h0 : Heap) (n0 : Nat) (Z0 : n0 ≤ h0.size) (E_a1 : Exa Z h0 a1 "com/example/tidemine/tidemine/PatternTrie") (F_items : Fld Z h0 a1 "com/example/tidemine/tidemine/PatternTrie" "items" "[I" (.ref bi)) (V_bi : Arv Z h0 bi ki .int (16 : Int32) (own_bs IL) (.int (0 : Int32))) (F_sameEvents : Fld Z h0 a1 "com/example/tidemine/tidemine/PatternTrie" "sameEvents" "[Z" (.ref bf)) (V_bf : Arv Z h0 bf kf .boolean (16 : Int32) (own_bs FL) (.int (0 : Int32))) (F_parents : Fld Z h0 a1 "com/example/tidemine/tidemine/PatternTrie" "parents" "[I" (.ref bp)) (V_bp : Arv Z h0 bp kp .int (16 : Int32) (own_bs PL) (.int (0 : Int32))) (F_children : Fld Z h0 a1 "com/example/tidemine/tidemine/PatternTrie" "children" "[[I" (.ref bc)) (V_bc : Arv Z h0 bc kc (.array .int) (16 : Int32) CV .null) (F_childCounts : Fld Z h0 a1 "com/example/tidemine/tidemine/PatternTrie" "childCounts" "[I" (.ref bn)) (V_bn : Arv Z h0 bn kn .int (16 : Int32) (own_bs NL) (.int (0 : Int32))) (hp : ¬ p2 < (0 : Int32) ∧ p2 < (16 : Int32)) (hcv : CV.getD p2.toNatClampNeg .null = .ref s4) (hnc : NL.getD p2.toNatClampNeg 0 = (1 : Int32)) (V_s4 : Arv Z h0 s4 k4 .int (4 : Int32) [(.int t0_), (.int t1_), (.int t2_), (.int t3_)] (.int (0 : Int32))) (hb0 : ¬ t0_ < (0 : Int32) ∧ t0_ < (16 : Int32)) (hk0 : IL.getD t0_.toNatClampNeg 0 = k0_) (hf0 : FL.getD t0_.toNatClampNeg 0 = f0_) (hat : own_s_1 k0_ f0_ p3 p4 = (0 : Int32)) (hIL : IL.length = 16) (hFL : FL.length = 16) (hPL : PL.length = 16) (hNL : NL.length = 16) (hCV : CV.length = 16) (hz : ¬ sz < (0 : Int32) ∧ sz < (16 : Int32)) (F_size : Fld Z h0 a1 "com/example/tidemine/tidemine/PatternTrie" "size" "I" (.int sz)) (O_bc : OvrA Z kc .int "[I") (h4 : nar .boolean p4 = p4) (g_a1 : n0 ≤ a1) (g_bi : n0 ≤ bi) (g_bf : n0 ≤ bf) (g_bp : n0 ≤ bp) (g_bc : n0 ≤ bc) (g_bn : n0 ≤ bn) (g_s4 : n0 ≤ s4) (ne_a1_bi : a1 ≠ bi) (ne_a1_bf : a1 ≠ bf) (ne_a1_bp : a1 ≠ bp) (ne_a1_bc : a1 ≠ bc) (ne_a1_bn : a1 ≠ bn) (ne_a1_s4 : a1 ≠ s4) (ne_bi_bf : bi ≠ bf) (ne_bi_bp : bi ≠ bp) (ne_bi_bc : bi ≠ bc) (ne_bi_bn : bi ≠ bn) (ne_bi_s4 : bi ≠ s4) (ne_bf_bp : bf ≠ bp) (ne_bf_bc : bf ≠ bc) (ne_bf_bn : bf ≠ bn) (ne_bf_s4 : bf ≠ s4) (ne_bp_bc : bp ≠ bc) (ne_bp_bn : bp ≠ bn) (ne_bp_s4 : bp ≠ s4) (ne_bc_bn : bc ≠ bn) (ne_bc_s4 : bc ≠ s4) (ne_bn_s4 : bn ≠ s4) (E_s4 : Exa Z h0 s4 "[I") (hnf : ¬ (k0_ = p3 ∧ f0_ = p4)) :
    MetFree l mn_3 (head1 (Jvm.Cond.code mn_3 prog_23_method_3_code 8 (some .int) :: ws) ({ frames := 2, cells := 1, slots := 4, locals := 35 } : Room)) (fun a U => a = #[(.ref a1), (.int p2), (.int p3), (.int p4)] ∧ Z.Warmed39 U.vm ∧ U.heap = h0) (fun _ _ _ _ _ => True) (fun _ U o U' => ∃ v L, o = .returned v ∧ Q4_a10 Z a1 p2 p3 p4 bi bf bp bc bn ki kf kp kc kn IL FL PL NL CV s4 k4 t0_ t1_ t2_ t3_ k0_ f0_ sz h0 n0 v U'.heap L ∧ FrameEnd U o U' L ({ frames := 2, cells := 1, slots := 4, locals := 35 } : Room).cells ({ frames := 2, cells := 1, slots := 4, locals := 35 } : Room).slots) := by
  refine MetFree.of_bodySF (plainFor_of_name pn_2) hisR ?_
  intro p e s m args below meth c s₁ Bd hml0 hP hK
  obtain ⟨rfl, hZ, hh⟩ := hP
  have hx := Bd.exec
  have hby := Bd.bytes
  have hml : c.maxLocals = 8 := hml0
  have hown : s.vm.findClass "com/example/tidemine/tidemine/PatternTrie" = some m.cls := findClass_of_methodNamed Bd.named
  have hnm := (name_of_methodNamed Bd.named Bd.method).1
  have X0 : Stand p l e ({ frames := 2, cells := 1, slots := 4, locals := 35 } : Room) s m #[(.ref a1), (.int p2), (.int p3), (.int p4)] below meth c s₁ [] 0 0 := Stand.of_body Bd
  have e0 : s₁.heap = h0 := by rw [← hh, Bd.state]; rfl
  have N0 := Fr.nil n0
  have K0 := Keep.refl h0 [a1, bi, bf, bp, bc, bn, s4]
  have pre0 : ∀ t, Steps p.tables e below (s₁.setTop (mkF m 0 #[.val (.ref a1), .val (.int p2), .val (.int p3), .val (.int p4), .unset, .unset, .unset, .unset] [])) t → Steps p.tables e below (s₁.setTop (entryFrame m #[(.ref a1), (.int p2), (.int p3), (.int p4)] 8)) t := fun t k => castTop (ef_4_a10 m a1 p2 p3 p4) k
  obtain ⟨cq1, q1, q1'⟩ := E_a1.cell
  obtain ⟨_, _, ⟨T1, L1, k1, n1⟩, -, X1, ⟨Lc1, hQ1, l1, y1, z1⟩, st1⟩ := X0.privateBack hx (y := mn_2) hown (mvT hZ (ww hw 35 rfl)) (mvT hZ (ww hw 36 rfl)) (own_selPriv (mvT hZ (ww hw 2 rfl)) (Cond.privateMethod_at (mvP hZ (ww hw 37 rfl) (args := #[]))) (mvT hZ (ww hw 36 rfl)) (by decide)) (Cond.privateMethod_at (mvP hZ (ww hw 37 rfl) (args := #[]))) (mvT hZ (ww hw 38 rfl)) (by decide) (backOf (W := 0) (rm5_1v l Z a0 hw [] a1 p2 p3 p4 bi bf bp bc bn ki kf kp kc kn IL FL PL NL CV s4 k4 t0_ t1_ t2_ t3_ k0_ f0_ (0 : Int32) h0 E_a1 F_children V_bc F_childCounts V_bn F_items V_bi F_sameEvents V_bf hp hcv hnc V_s4 hb0 hk0 hf0 hat) hZ (ww hw 38 rfl) (ww hw 3 rfl) (by decide) (by decide)) (g := (mkF m 4 #[vR a1, vI p2, vI p3, vI p4, .unset, .unset, .unset, .unset] [iI p4, iI p3, iI p2, iR a1])) rfl (by rw [hml]; rfl) (Steps.refl _) (a := a1) (by rw [e0]; exact q1) q1' (argsL := [(.int p2), (.int p3), (.int p4)]) (rest := []) (lenOf pd_2 rfl) rfl (wz rfl) (hb hby d4_4) (fun _ _ => ⟨rfl, e0, (by decide : 0 + 0 ≤ _), (by decide : 0 + 0 ≤ _)⟩)
  dsimp only [Pt.U, Pt.locs, Pt.cells, Pt.slots] at X1 l1 y1 z1 st1 hQ1
  subst l1 y1 z1
  obtain ⟨rfl, rfl, e1⟩ := hQ1
  try rw [List.append_nil] at X1
  obtain ⟨T2, X2, e2, st2⟩ := gF X1 hx hZ hown (ww hw 22 rfl) e1 F_children (g := (mkF m 10 #[vR a1, vI p2, vI p3, vI p4, vI 0, .unset, .unset, .unset] [iR a1])) rfl rfl (hb hby d4_10)
  obtain ⟨cl3, Ar3, q3, S3, M3, H3, G3⟩ := id V_bc
  have hin4 := inb_of (j := p2) S3 hp
  have hat5 : cl3.slots[(p2).toNatClampNeg]? = some (.ref s4) := Has.at H3 hin4 hcv
  obtain ⟨T6, X6, e6, st6⟩ := gF X2 hx hZ hown (ww hw 24 rfl) e2 F_childCounts (g := (mkF m 18 #[vR a1, vI p2, vI p3, vI p4, vI 0, vR s4, .unset, .unset] [iR a1])) rfl rfl (hb hby d4_18)
  obtain ⟨cl7, Ar7, q7, S7, M7, H7, G7⟩ := id V_bn
  have hin8 := inb_of (j := p2) S7 hp
  have hat9 : cl7.slots[(p2).toNatClampNeg]? = some (.int (1 : Int32)) := Has.at H7 hin8 (by rw [own_bsget, hnc])
  obtain ⟨T10, X10, e10, st10⟩ := gF X6 hx hZ hown (ww hw 13 rfl) e6 F_items (g := (mkF m 33 #[vR a1, vI p2, vI p3, vI p4, vI 0, vR s4, vI 1, .unset] [iR a1])) rfl rfl (hb hby d4_33)
  obtain ⟨cl11, Ar11, q11, S11, M11, H11, G11⟩ := id V_s4
  have hin12 := inb_of (j := (0 : Int32)) S11 ⟨by decide, by decide⟩
  obtain ⟨cl14, Ar14, q14, S14, M14, H14, G14⟩ := id V_bi
  have hin15 := inb_of (j := t0_) S14 hb0
  have hat16 : cl14.slots[(t0_).toNatClampNeg]? = some (.int k0_) := Has.at H14 hin15 (by rw [own_bsget, hk0])
  obtain ⟨T17, X17, e17, st17⟩ : own_Mid X10 h0 (mkF m 43 #[vR a1, vI p2, vI p3, vI p4, vI 0, vR s4, vI 1, .unset] [iI p3, iI k0_]) (mkF m 66 #[vR a1, vI p2, vI p3, vI p4, vI 0, vR s4, vI 1, .unset] []) := by
    by_cases hc18 : k0_ = p3
    · obtain ⟨T19, X19, e19, st19⟩ := gF X10 hx hZ hown (ww hw 16 rfl) e10 F_sameEvents (g := (mkF m 47 #[vR a1, vI p2, vI p3, vI p4, vI 0, vR s4, vI 1, .unset] [iR a1])) rfl rfl (hb hby d4_47)
      have hin20 := inb_of (j := (0 : Int32)) S11 ⟨by decide, by decide⟩
      obtain ⟨cl22, Ar22, q22, S22, M22, H22, G22⟩ := id V_bf
      have hin23 := inb_of (j := t0_) S22 hb0
      have hat24 : cl22.slots[(t0_).toNatClampNeg]? = some (.int f0_) := Has.at H22 hin23 (by rw [own_bsget, hf0])
      have pre26 : ∀ t, Steps p.tables e below (T19.setTop (mkF m 57 #[vR a1, vI p2, vI p3, vI p4, vI 0, vR s4, vI 1, .unset] [iI p4, iI f0_])) t → Steps p.tables e below (T10.setTop (mkF m 43 #[vR a1, vI p2, vI p3, vI p4, vI 0, vR s4, vI 1, .unset] [iI p3, iI k0_])) t := by
        intro t kt
        refine XS.icmpNo X10.here hx rfl (hb hby d4_43) rfl (teq hc18).2 ?_
        refine XS.aloadN X10.here hx rfl (hb hby d4_46) rfl rfl ?_
        refine st19 _ ?_
        refine XS.aload X19.here hx rfl (hb hby d4_50) rfl rfl ?_
        refine XS.iload X19.here hx rfl (hb hby d4_52) rfl ?_
        refine X19.iaload hx (j := (0 : Int32)) (v := (.int t0_)) (by rw [e19]; exact Ar11.1) (State.isArrayOf_alike hZ.alike Ar11.2.1) Ar11.2.2 hin20 (Has.at H11 hin20 rfl) (g := (mkF m 54 #[vR a1, vI p2, vI p3, vI p4, vI 0, vR s4, vI 1, .unset] [iI 0, iR s4, iR bf])) rfl rfl (hb hby d4_54) _ ?_
        refine X19.baloadBooleans hx (j := t0_) (v := (.int f0_)) (by rw [e19]; exact Ar22.1) (State.isArrayOf_alike hZ.alike Ar22.2.1) Ar22.2.2 hin23 hat24 (g := (mkF m 55 #[vR a1, vI p2, vI p3, vI p4, vI 0, vR s4, vI 1, .unset] [iI t0_, iR bf])) rfl rfl (hb hby d4_55) _ ?_
        refine XS.iloadN X19.here hx rfl (hb hby d4_56) rfl ?_
        exact kt
      by_cases hc25 : f0_ = p4
      · exfalso; exact hnf ⟨hc18, hc25⟩
      · refine ⟨T19, X19, e19, fun t kt => ?_⟩
        refine pre26 t ?_
        refine XS.icmpYes X19.here hx rfl (pc0 := 57) (pc' := 66) rfl (hb hby d4_57) rfl (feq hc25).2 (by decide) (by decide) ?_
        exact kt
    · refine ⟨T10, X10, e10, fun t kt => ?_⟩
      refine XS.icmpYes X10.here hx rfl (pc0 := 43) (pc' := 66) rfl (hb hby d4_43) rfl (feq hc18).2 (by decide) (by decide) ?_
      exact kt
  have pre27 : ∀ t, Steps p.tables e below (T17.setTop (mkF m 66 #[vR a1, vI p2, vI p3, vI p4, vI 0, vR s4, vI 1, .unset] [])) t → Steps p.tables e below (s₁.setTop (entryFrame m #[(.ref a1), (.int p2), (.int p3), (.int p4)] 8)) t := by
    intro t kt
    refine pre0 t ?_
    refine XS.aloadN X0.here hx rfl (hb hby d4_0) rfl rfl ?_
    refine XS.iloadN X0.here hx rfl (hb hby d4_1) rfl ?_
    refine XS.iloadN X0.here hx rfl (hb hby d4_2) rfl ?_
    refine XS.iloadN X0.here hx rfl (hb hby d4_3) rfl ?_
    refine st1.trans ?_
    refine XS.istore X1.here hx rfl (hb hby d4_7) rfl (l' := #[vR a1, vI p2, vI p3, vI p4, vI 0, .unset, .unset, .unset]) rfl ?_
    refine XS.aloadN X1.here hx rfl (hb hby d4_9) rfl rfl ?_
    refine st2 _ ?_
    refine XS.iloadN X2.here hx rfl (hb hby d4_13) rfl ?_
    refine X2.aaload hx (j := p2) (v := (.ref s4)) (by rw [e2]; exact Ar3.1) (State.isArrayOf_alike hZ.alike Ar3.2.1) rfl Ar3.2.2 hin4 hat5 (g := (mkF m 14 #[vR a1, vI p2, vI p3, vI p4, vI 0, .unset, .unset, .unset] [iI p2, iR bc])) rfl rfl (hb hby d4_14) _ ?_
    refine XS.astore X2.here hx rfl (hb hby d4_15) rfl rfl (l' := #[vR a1, vI p2, vI p3, vI p4, vI 0, vR s4, .unset, .unset]) rfl ?_
    refine XS.aloadN X2.here hx rfl (hb hby d4_17) rfl rfl ?_
    refine st6 _ ?_
    refine XS.iloadN X6.here hx rfl (hb hby d4_21) rfl ?_
    refine X6.iaload hx (j := p2) (v := (.int (1 : Int32))) (by rw [e6]; exact Ar7.1) (State.isArrayOf_alike hZ.alike Ar7.2.1) Ar7.2.2 hin8 hat9 (g := (mkF m 22 #[vR a1, vI p2, vI p3, vI p4, vI 0, vR s4, .unset, .unset] [iI p2, iR bn])) rfl rfl (hb hby d4_22) _ ?_
    refine XS.istore X6.here hx rfl (hb hby d4_23) rfl (l' := #[vR a1, vI p2, vI p3, vI p4, vI 0, vR s4, vI 1, .unset]) rfl ?_
    refine XS.iload X6.here hx rfl (hb hby d4_25) rfl ?_
    refine XS.iload X6.here hx rfl (hb hby d4_27) rfl ?_
    refine XS.icmpNo X6.here hx rfl (hb hby d4_29) rfl (tlt (by decide : (0 : Int32) < (1 : Int32))).2.1 ?_
    refine XS.aloadN X6.here hx rfl (hb hby d4_32) rfl rfl ?_
    refine st10 _ ?_
    refine XS.aload X10.here hx rfl (hb hby d4_36) rfl rfl ?_
    refine XS.iload X10.here hx rfl (hb hby d4_38) rfl ?_
    refine X10.iaload hx (j := (0 : Int32)) (v := (.int t0_)) (by rw [e10]; exact Ar11.1) (State.isArrayOf_alike hZ.alike Ar11.2.1) Ar11.2.2 hin12 (Has.at H11 hin12 rfl) (g := (mkF m 40 #[vR a1, vI p2, vI p3, vI p4, vI 0, vR s4, vI 1, .unset] [iI 0, iR s4, iR bi])) rfl rfl (hb hby d4_40) _ ?_
    refine X10.iaload hx (j := t0_) (v := (.int k0_)) (by rw [e10]; exact Ar14.1) (State.isArrayOf_alike hZ.alike Ar14.2.1) Ar14.2.2 hin15 hat16 (g := (mkF m 41 #[vR a1, vI p2, vI p3, vI p4, vI 0, vR s4, vI 1, .unset] [iI t0_, iR bi])) rfl rfl (hb hby d4_41) _ ?_
    refine XS.iloadN X10.here hx rfl (hb hby d4_42) rfl ?_
    refine st17 _ ?_
    exact kt
  obtain ⟨s₂, o₂, hs₂, hr₂⟩ := own_t4 (IL := IL) (FL := FL) (PL := PL) (NL := NL) (CV := CV) (SL := [t0_, t1_, t2_, t3_]) (at_ := (0 : Int32)) (c_ := (1 : Int32)) (c1_ := (2 : Int32)) (FIN := [(.int sz), (.int t0_), (.int t2_), (.int t3_)]) X17 hx hZ hw hby hml hown Bd.returns (by first | assumption | exact BodyLoose.notSynchronized (by assumption) | exact Body.notSynchronized (by assumption)) e17 K0 N0 Z0 E_a1 F_items V_bi F_sameEvents V_bf F_parents V_bp F_children V_bc F_childCounts V_bn hp V_s4 hIL hFL hPL hNL hCV hz F_size O_bc h4 g_a1 g_bi g_bf g_bp g_bc g_bn g_s4 ne_a1_bi ne_a1_bf ne_a1_bp ne_a1_bc ne_a1_bn ne_a1_s4 ne_bi_bf ne_bi_bp ne_bi_bc ne_bi_bn ne_bi_s4 ne_bf_bp ne_bf_bc ne_bf_bn ne_bf_s4 ne_bp_bc ne_bp_bn ne_bp_s4 ne_bc_bn ne_bc_s4 ne_bn_s4 E_s4 (by decide) (by decide) (by decide) (by decide) (by decide) (by decide) (by decide) rfl (Nat.le_of_ble_eq_true rfl) (by decide) rfl
  exact ⟨s₂, o₂, pre27 _ hs₂, hr₂⟩
theorem ef_4_a11 (m : MethodId) (x0 : Addr) (x1 : Int32) (x2 : Int32) (x3 : Int32) : entryFrame m #[(.ref x0), (.int x1), (.int x2), (.int x3)] 8 = mkF m 0 #[.val (.ref x0), .val (.int x1), .val (.int x2), .val (.int x3), .unset, .unset, .unset, .unset] [] := by first | (simp [entryFrame, mkF, argsToLocals, Value.category]; done) | rfl
def Q4_a11 (Z : State) (a1 : Addr) (p2 : Int32) (p3 : Int32) (p4 : Int32) (bi bf bp bc bn : Addr) (ki kf kp kc kn : ClassId) (IL FL PL NL : List Int32) (CV : List Value) (s4 : Addr) (k4 : ClassId) (t0_ t1_ t2_ t3_ : Int32) (k0_ f0_ : Int32) (sz : Int32) (h0 : Heap) (n0 : Nat) (v : Option Value) (h : Heap) (L : List Loc) : Prop := own_Q4t Z a1 p2 p3 p4 bi bf bp bc bn ki kf kp kc kn IL FL PL NL CV s4 k4 (2 : Int32) sz [(.int t0_), (.int sz), (.int t2_), (.int t3_)] h0 n0 v h L
theorem rm4_a11 (l : Launch) (Z : State) (a0 : Array Value) (hw : ∀ d ∈ tables_1, d.before a0 Z = true) (ws : List Jvm.Cond) (a1 : Addr) (p2 : Int32) (p3 : Int32) (p4 : Int32) (bi bf bp bc bn : Addr) (ki kf kp kc kn : ClassId) (IL FL PL NL : List Int32) (CV : List Value) (s4 : Addr) (k4 : ClassId) (t0_ t1_ t2_ t3_ : Int32) (k0_ f0_ : Int32) (sz : Int32) (h0 : Heap) (n0 : Nat) (Z0 : n0 ≤ h0.size) (E_a1 : Exa Z h0 a1 "com/example/tidemine/tidemine/PatternTrie") (F_items : Fld Z h0 a1 "com/example/tidemine/tidemine/PatternTrie" "items" "[I" (.ref bi)) (V_bi : Arv Z h0 bi ki .int (16 : Int32) (own_bs IL) (.int (0 : Int32))) (F_sameEvents : Fld Z h0 a1 "com/example/tidemine/tidemine/PatternTrie" "sameEvents" "[Z" (.ref bf)) (V_bf : Arv Z h0 bf kf .boolean (16 : Int32) (own_bs FL) (.int (0 : Int32))) (F_parents : Fld Z h0 a1 "com/example/tidemine/tidemine/PatternTrie" "parents" "[I" (.ref bp)) (V_bp : Arv Z h0 bp kp .int (16 : Int32) (own_bs PL) (.int (0 : Int32))) (F_children : Fld Z h0 a1 "com/example/tidemine/tidemine/PatternTrie" "children" "[[I" (.ref bc)) (V_bc : Arv Z h0 bc kc (.array .int) (16 : Int32) CV .null) (F_childCounts : Fld Z h0 a1 "com/example/tidemine/tidemine/PatternTrie" "childCounts" "[I" (.ref bn)) (V_bn : Arv Z h0 bn kn .int (16 : Int32) (own_bs NL) (.int (0 : Int32))) (hp : ¬ p2 < (0 : Int32) ∧ p2 < (16 : Int32)) (hcv : CV.getD p2.toNatClampNeg .null = .ref s4) (hnc : NL.getD p2.toNatClampNeg 0 = (1 : Int32)) (V_s4 : Arv Z h0 s4 k4 .int (4 : Int32) [(.int t0_), (.int t1_), (.int t2_), (.int t3_)] (.int (0 : Int32))) (hb0 : ¬ t0_ < (0 : Int32) ∧ t0_ < (16 : Int32)) (hk0 : IL.getD t0_.toNatClampNeg 0 = k0_) (hf0 : FL.getD t0_.toNatClampNeg 0 = f0_) (hat : own_s_1 k0_ f0_ p3 p4 = (1 : Int32)) (hIL : IL.length = 16) (hFL : FL.length = 16) (hPL : PL.length = 16) (hNL : NL.length = 16) (hCV : CV.length = 16) (hz : ¬ sz < (0 : Int32) ∧ sz < (16 : Int32)) (F_size : Fld Z h0 a1 "com/example/tidemine/tidemine/PatternTrie" "size" "I" (.int sz)) (O_bc : OvrA Z kc .int "[I") (h4 : nar .boolean p4 = p4) (g_a1 : n0 ≤ a1) (g_bi : n0 ≤ bi) (g_bf : n0 ≤ bf) (g_bp : n0 ≤ bp) (g_bc : n0 ≤ bc) (g_bn : n0 ≤ bn) (g_s4 : n0 ≤ s4) (ne_a1_bi : a1 ≠ bi) (ne_a1_bf : a1 ≠ bf) (ne_a1_bp : a1 ≠ bp) (ne_a1_bc : a1 ≠ bc) (ne_a1_bn : a1 ≠ bn) (ne_a1_s4 : a1 ≠ s4) (ne_bi_bf : bi ≠ bf) (ne_bi_bp : bi ≠ bp) (ne_bi_bc : bi ≠ bc) (ne_bi_bn : bi ≠ bn) (ne_bi_s4 : bi ≠ s4) (ne_bf_bp : bf ≠ bp) (ne_bf_bc : bf ≠ bc) (ne_bf_bn : bf ≠ bn) (ne_bf_s4 : bf ≠ s4) (ne_bp_bc : bp ≠ bc) (ne_bp_bn : bp ≠ bn) (ne_bp_s4 : bp ≠ s4) (ne_bc_bn : bc ≠ bn) (ne_bc_s4 : bc ≠ s4) (ne_bn_s4 : bn ≠ s4) (E_s4 : Exa Z h0 s4 "[I") :
    MetFree l mn_3 (head1 (Jvm.Cond.code mn_3 prog_23_method_3_code 8 (some .int) :: ws) ({ frames := 2, cells := 1, slots := 4, locals := 35 } : Room)) (fun a U => a = #[(.ref a1), (.int p2), (.int p3), (.int p4)] ∧ Z.Warmed39 U.vm ∧ U.heap = h0) (fun _ _ _ _ _ => True) (fun _ U o U' => ∃ v L, o = .returned v ∧ Q4_a11 Z a1 p2 p3 p4 bi bf bp bc bn ki kf kp kc kn IL FL PL NL CV s4 k4 t0_ t1_ t2_ t3_ k0_ f0_ sz h0 n0 v U'.heap L ∧ FrameEnd U o U' L ({ frames := 2, cells := 1, slots := 4, locals := 35 } : Room).cells ({ frames := 2, cells := 1, slots := 4, locals := 35 } : Room).slots) := by
  refine MetFree.of_bodySF (plainFor_of_name pn_2) hisR ?_
  intro p e s m args below meth c s₁ Bd hml0 hP hK
  obtain ⟨rfl, hZ, hh⟩ := hP
  have hx := Bd.exec
  have hby := Bd.bytes
  have hml : c.maxLocals = 8 := hml0
  have hown : s.vm.findClass "com/example/tidemine/tidemine/PatternTrie" = some m.cls := findClass_of_methodNamed Bd.named
  have hnm := (name_of_methodNamed Bd.named Bd.method).1
  have X0 : Stand p l e ({ frames := 2, cells := 1, slots := 4, locals := 35 } : Room) s m #[(.ref a1), (.int p2), (.int p3), (.int p4)] below meth c s₁ [] 0 0 := Stand.of_body Bd
  have e0 : s₁.heap = h0 := by rw [← hh, Bd.state]; rfl
  have N0 := Fr.nil n0
  have K0 := Keep.refl h0 [a1, bi, bf, bp, bc, bn, s4]
  have pre0 : ∀ t, Steps p.tables e below (s₁.setTop (mkF m 0 #[.val (.ref a1), .val (.int p2), .val (.int p3), .val (.int p4), .unset, .unset, .unset, .unset] [])) t → Steps p.tables e below (s₁.setTop (entryFrame m #[(.ref a1), (.int p2), (.int p3), (.int p4)] 8)) t := fun t k => castTop (ef_4_a11 m a1 p2 p3 p4) k
  obtain ⟨cq1, q1, q1'⟩ := E_a1.cell
  obtain ⟨_, _, ⟨T1, L1, k1, n1⟩, -, X1, ⟨Lc1, hQ1, l1, y1, z1⟩, st1⟩ := X0.privateBack hx (y := mn_2) hown (mvT hZ (ww hw 35 rfl)) (mvT hZ (ww hw 36 rfl)) (own_selPriv (mvT hZ (ww hw 2 rfl)) (Cond.privateMethod_at (mvP hZ (ww hw 37 rfl) (args := #[]))) (mvT hZ (ww hw 36 rfl)) (by decide)) (Cond.privateMethod_at (mvP hZ (ww hw 37 rfl) (args := #[]))) (mvT hZ (ww hw 38 rfl)) (by decide) (backOf (W := 0) (rm5_1v l Z a0 hw [] a1 p2 p3 p4 bi bf bp bc bn ki kf kp kc kn IL FL PL NL CV s4 k4 t0_ t1_ t2_ t3_ k0_ f0_ (1 : Int32) h0 E_a1 F_children V_bc F_childCounts V_bn F_items V_bi F_sameEvents V_bf hp hcv hnc V_s4 hb0 hk0 hf0 hat) hZ (ww hw 38 rfl) (ww hw 3 rfl) (by decide) (by decide)) (g := (mkF m 4 #[vR a1, vI p2, vI p3, vI p4, .unset, .unset, .unset, .unset] [iI p4, iI p3, iI p2, iR a1])) rfl (by rw [hml]; rfl) (Steps.refl _) (a := a1) (by rw [e0]; exact q1) q1' (argsL := [(.int p2), (.int p3), (.int p4)]) (rest := []) (lenOf pd_2 rfl) rfl (wz rfl) (hb hby d4_4) (fun _ _ => ⟨rfl, e0, (by decide : 0 + 0 ≤ _), (by decide : 0 + 0 ≤ _)⟩)
  dsimp only [Pt.U, Pt.locs, Pt.cells, Pt.slots] at X1 l1 y1 z1 st1 hQ1
  subst l1 y1 z1
  obtain ⟨rfl, rfl, e1⟩ := hQ1
  try rw [List.append_nil] at X1
  obtain ⟨T2, X2, e2, st2⟩ := gF X1 hx hZ hown (ww hw 22 rfl) e1 F_children (g := (mkF m 10 #[vR a1, vI p2, vI p3, vI p4, vI 1, .unset, .unset, .unset] [iR a1])) rfl rfl (hb hby d4_10)
  obtain ⟨cl3, Ar3, q3, S3, M3, H3, G3⟩ := id V_bc
  have hin4 := inb_of (j := p2) S3 hp
  have hat5 : cl3.slots[(p2).toNatClampNeg]? = some (.ref s4) := Has.at H3 hin4 hcv
  obtain ⟨T6, X6, e6, st6⟩ := gF X2 hx hZ hown (ww hw 24 rfl) e2 F_childCounts (g := (mkF m 18 #[vR a1, vI p2, vI p3, vI p4, vI 1, vR s4, .unset, .unset] [iR a1])) rfl rfl (hb hby d4_18)
  obtain ⟨cl7, Ar7, q7, S7, M7, H7, G7⟩ := id V_bn
  have hin8 := inb_of (j := p2) S7 hp
  have hat9 : cl7.slots[(p2).toNatClampNeg]? = some (.int (1 : Int32)) := Has.at H7 hin8 (by rw [own_bsget, hnc])
  have pre10 : ∀ t, Steps p.tables e below (T6.setTop (mkF m 66 #[vR a1, vI p2, vI p3, vI p4, vI 1, vR s4, vI 1, .unset] [])) t → Steps p.tables e below (s₁.setTop (entryFrame m #[(.ref a1), (.int p2), (.int p3), (.int p4)] 8)) t := by
    intro t kt
    refine pre0 t ?_
    refine XS.aloadN X0.here hx rfl (hb hby d4_0) rfl rfl ?_
    refine XS.iloadN X0.here hx rfl (hb hby d4_1) rfl ?_
    refine XS.iloadN X0.here hx rfl (hb hby d4_2) rfl ?_
    refine XS.iloadN X0.here hx rfl (hb hby d4_3) rfl ?_
    refine st1.trans ?_
    refine XS.istore X1.here hx rfl (hb hby d4_7) rfl (l' := #[vR a1, vI p2, vI p3, vI p4, vI 1, .unset, .unset, .unset]) rfl ?_
    refine XS.aloadN X1.here hx rfl (hb hby d4_9) rfl rfl ?_
    refine st2 _ ?_
    refine XS.iloadN X2.here hx rfl (hb hby d4_13) rfl ?_
    refine X2.aaload hx (j := p2) (v := (.ref s4)) (by rw [e2]; exact Ar3.1) (State.isArrayOf_alike hZ.alike Ar3.2.1) rfl Ar3.2.2 hin4 hat5 (g := (mkF m 14 #[vR a1, vI p2, vI p3, vI p4, vI 1, .unset, .unset, .unset] [iI p2, iR bc])) rfl rfl (hb hby d4_14) _ ?_
    refine XS.astore X2.here hx rfl (hb hby d4_15) rfl rfl (l' := #[vR a1, vI p2, vI p3, vI p4, vI 1, vR s4, .unset, .unset]) rfl ?_
    refine XS.aloadN X2.here hx rfl (hb hby d4_17) rfl rfl ?_
    refine st6 _ ?_
    refine XS.iloadN X6.here hx rfl (hb hby d4_21) rfl ?_
    refine X6.iaload hx (j := p2) (v := (.int (1 : Int32))) (by rw [e6]; exact Ar7.1) (State.isArrayOf_alike hZ.alike Ar7.2.1) Ar7.2.2 hin8 hat9 (g := (mkF m 22 #[vR a1, vI p2, vI p3, vI p4, vI 1, vR s4, .unset, .unset] [iI p2, iR bn])) rfl rfl (hb hby d4_22) _ ?_
    refine XS.istore X6.here hx rfl (hb hby d4_23) rfl (l' := #[vR a1, vI p2, vI p3, vI p4, vI 1, vR s4, vI 1, .unset]) rfl ?_
    refine XS.iload X6.here hx rfl (hb hby d4_25) rfl ?_
    refine XS.iload X6.here hx rfl (hb hby d4_27) rfl ?_
    refine XS.icmpYes X6.here hx rfl (pc0 := 29) (pc' := 66) rfl (hb hby d4_29) rfl (flt (by decide : ¬ ((1 : Int32) < (1 : Int32)))).2.1 (by decide) (by decide) ?_
    exact kt
  obtain ⟨s₂, o₂, hs₂, hr₂⟩ := own_t4 (IL := IL) (FL := FL) (PL := PL) (NL := NL) (CV := CV) (SL := [t0_, t1_, t2_, t3_]) (at_ := (1 : Int32)) (c_ := (1 : Int32)) (c1_ := (2 : Int32)) (FIN := [(.int t0_), (.int sz), (.int t2_), (.int t3_)]) X6 hx hZ hw hby hml hown Bd.returns (by first | assumption | exact BodyLoose.notSynchronized (by assumption) | exact Body.notSynchronized (by assumption)) e6 K0 N0 Z0 E_a1 F_items V_bi F_sameEvents V_bf F_parents V_bp F_children V_bc F_childCounts V_bn hp V_s4 hIL hFL hPL hNL hCV hz F_size O_bc h4 g_a1 g_bi g_bf g_bp g_bc g_bn g_s4 ne_a1_bi ne_a1_bf ne_a1_bp ne_a1_bc ne_a1_bn ne_a1_s4 ne_bi_bf ne_bi_bp ne_bi_bc ne_bi_bn ne_bi_s4 ne_bf_bp ne_bf_bc ne_bf_bn ne_bf_s4 ne_bp_bc ne_bp_bn ne_bp_s4 ne_bc_bn ne_bc_s4 ne_bn_s4 E_s4 (by decide) (by decide) (by decide) (by decide) (by decide) (by decide) (by decide) rfl (Nat.le_of_ble_eq_true rfl) (by decide) rfl
  exact ⟨s₂, o₂, pre10 _ hs₂, hr₂⟩
theorem ef_4_a20 (m : MethodId) (x0 : Addr) (x1 : Int32) (x2 : Int32) (x3 : Int32) : entryFrame m #[(.ref x0), (.int x1), (.int x2), (.int x3)] 8 = mkF m 0 #[.val (.ref x0), .val (.int x1), .val (.int x2), .val (.int x3), .unset, .unset, .unset, .unset] [] := by first | (simp [entryFrame, mkF, argsToLocals, Value.category]; done) | rfl
def Q4_a20 (Z : State) (a1 : Addr) (p2 : Int32) (p3 : Int32) (p4 : Int32) (bi bf bp bc bn : Addr) (ki kf kp kc kn : ClassId) (IL FL PL NL : List Int32) (CV : List Value) (s4 : Addr) (k4 : ClassId) (t0_ t1_ t2_ t3_ : Int32) (k0_ f0_ k1_ f1_ : Int32) (sz : Int32) (h0 : Heap) (n0 : Nat) (v : Option Value) (h : Heap) (L : List Loc) : Prop := own_Q4t Z a1 p2 p3 p4 bi bf bp bc bn ki kf kp kc kn IL FL PL NL CV s4 k4 (3 : Int32) sz [(.int sz), (.int t0_), (.int t1_), (.int t3_)] h0 n0 v h L
theorem rm4_a20 (l : Launch) (Z : State) (a0 : Array Value) (hw : ∀ d ∈ tables_1, d.before a0 Z = true) (ws : List Jvm.Cond) (a1 : Addr) (p2 : Int32) (p3 : Int32) (p4 : Int32) (bi bf bp bc bn : Addr) (ki kf kp kc kn : ClassId) (IL FL PL NL : List Int32) (CV : List Value) (s4 : Addr) (k4 : ClassId) (t0_ t1_ t2_ t3_ : Int32) (k0_ f0_ k1_ f1_ : Int32) (sz : Int32) (h0 : Heap) (n0 : Nat) (Z0 : n0 ≤ h0.size) (E_a1 : Exa Z h0 a1 "com/example/tidemine/tidemine/PatternTrie") (F_items : Fld Z h0 a1 "com/example/tidemine/tidemine/PatternTrie" "items" "[I" (.ref bi)) (V_bi : Arv Z h0 bi ki .int (16 : Int32) (own_bs IL) (.int (0 : Int32))) (F_sameEvents : Fld Z h0 a1 "com/example/tidemine/tidemine/PatternTrie" "sameEvents" "[Z" (.ref bf)) (V_bf : Arv Z h0 bf kf .boolean (16 : Int32) (own_bs FL) (.int (0 : Int32))) (F_parents : Fld Z h0 a1 "com/example/tidemine/tidemine/PatternTrie" "parents" "[I" (.ref bp)) (V_bp : Arv Z h0 bp kp .int (16 : Int32) (own_bs PL) (.int (0 : Int32))) (F_children : Fld Z h0 a1 "com/example/tidemine/tidemine/PatternTrie" "children" "[[I" (.ref bc)) (V_bc : Arv Z h0 bc kc (.array .int) (16 : Int32) CV .null) (F_childCounts : Fld Z h0 a1 "com/example/tidemine/tidemine/PatternTrie" "childCounts" "[I" (.ref bn)) (V_bn : Arv Z h0 bn kn .int (16 : Int32) (own_bs NL) (.int (0 : Int32))) (hp : ¬ p2 < (0 : Int32) ∧ p2 < (16 : Int32)) (hcv : CV.getD p2.toNatClampNeg .null = .ref s4) (hnc : NL.getD p2.toNatClampNeg 0 = (2 : Int32)) (V_s4 : Arv Z h0 s4 k4 .int (4 : Int32) [(.int t0_), (.int t1_), (.int t2_), (.int t3_)] (.int (0 : Int32))) (hb0 : ¬ t0_ < (0 : Int32) ∧ t0_ < (16 : Int32)) (hk0 : IL.getD t0_.toNatClampNeg 0 = k0_) (hf0 : FL.getD t0_.toNatClampNeg 0 = f0_) (hb1 : ¬ t1_ < (0 : Int32) ∧ t1_ < (16 : Int32)) (hk1 : IL.getD t1_.toNatClampNeg 0 = k1_) (hf1 : FL.getD t1_.toNatClampNeg 0 = f1_) (hat : own_s_2 k0_ f0_ k1_ f1_ p3 p4 = (0 : Int32)) (hIL : IL.length = 16) (hFL : FL.length = 16) (hPL : PL.length = 16) (hNL : NL.length = 16) (hCV : CV.length = 16) (hz : ¬ sz < (0 : Int32) ∧ sz < (16 : Int32)) (F_size : Fld Z h0 a1 "com/example/tidemine/tidemine/PatternTrie" "size" "I" (.int sz)) (O_bc : OvrA Z kc .int "[I") (h4 : nar .boolean p4 = p4) (g_a1 : n0 ≤ a1) (g_bi : n0 ≤ bi) (g_bf : n0 ≤ bf) (g_bp : n0 ≤ bp) (g_bc : n0 ≤ bc) (g_bn : n0 ≤ bn) (g_s4 : n0 ≤ s4) (ne_a1_bi : a1 ≠ bi) (ne_a1_bf : a1 ≠ bf) (ne_a1_bp : a1 ≠ bp) (ne_a1_bc : a1 ≠ bc) (ne_a1_bn : a1 ≠ bn) (ne_a1_s4 : a1 ≠ s4) (ne_bi_bf : bi ≠ bf) (ne_bi_bp : bi ≠ bp) (ne_bi_bc : bi ≠ bc) (ne_bi_bn : bi ≠ bn) (ne_bi_s4 : bi ≠ s4) (ne_bf_bp : bf ≠ bp) (ne_bf_bc : bf ≠ bc) (ne_bf_bn : bf ≠ bn) (ne_bf_s4 : bf ≠ s4) (ne_bp_bc : bp ≠ bc) (ne_bp_bn : bp ≠ bn) (ne_bp_s4 : bp ≠ s4) (ne_bc_bn : bc ≠ bn) (ne_bc_s4 : bc ≠ s4) (ne_bn_s4 : bn ≠ s4) (E_s4 : Exa Z h0 s4 "[I") (hnf : ¬ (k0_ = p3 ∧ f0_ = p4)) :
    MetFree l mn_3 (head1 (Jvm.Cond.code mn_3 prog_23_method_3_code 8 (some .int) :: ws) ({ frames := 2, cells := 1, slots := 4, locals := 35 } : Room)) (fun a U => a = #[(.ref a1), (.int p2), (.int p3), (.int p4)] ∧ Z.Warmed39 U.vm ∧ U.heap = h0) (fun _ _ _ _ _ => True) (fun _ U o U' => ∃ v L, o = .returned v ∧ Q4_a20 Z a1 p2 p3 p4 bi bf bp bc bn ki kf kp kc kn IL FL PL NL CV s4 k4 t0_ t1_ t2_ t3_ k0_ f0_ k1_ f1_ sz h0 n0 v U'.heap L ∧ FrameEnd U o U' L ({ frames := 2, cells := 1, slots := 4, locals := 35 } : Room).cells ({ frames := 2, cells := 1, slots := 4, locals := 35 } : Room).slots) := by
  refine MetFree.of_bodySF (plainFor_of_name pn_2) hisR ?_
  intro p e s m args below meth c s₁ Bd hml0 hP hK
  obtain ⟨rfl, hZ, hh⟩ := hP
  have hx := Bd.exec
  have hby := Bd.bytes
  have hml : c.maxLocals = 8 := hml0
  have hown : s.vm.findClass "com/example/tidemine/tidemine/PatternTrie" = some m.cls := findClass_of_methodNamed Bd.named
  have hnm := (name_of_methodNamed Bd.named Bd.method).1
  have X0 : Stand p l e ({ frames := 2, cells := 1, slots := 4, locals := 35 } : Room) s m #[(.ref a1), (.int p2), (.int p3), (.int p4)] below meth c s₁ [] 0 0 := Stand.of_body Bd
  have e0 : s₁.heap = h0 := by rw [← hh, Bd.state]; rfl
  have N0 := Fr.nil n0
  have K0 := Keep.refl h0 [a1, bi, bf, bp, bc, bn, s4]
  have pre0 : ∀ t, Steps p.tables e below (s₁.setTop (mkF m 0 #[.val (.ref a1), .val (.int p2), .val (.int p3), .val (.int p4), .unset, .unset, .unset, .unset] [])) t → Steps p.tables e below (s₁.setTop (entryFrame m #[(.ref a1), (.int p2), (.int p3), (.int p4)] 8)) t := fun t k => castTop (ef_4_a20 m a1 p2 p3 p4) k
  obtain ⟨cq1, q1, q1'⟩ := E_a1.cell
  obtain ⟨_, _, ⟨T1, L1, k1, n1⟩, -, X1, ⟨Lc1, hQ1, l1, y1, z1⟩, st1⟩ := X0.privateBack hx (y := mn_2) hown (mvT hZ (ww hw 35 rfl)) (mvT hZ (ww hw 36 rfl)) (own_selPriv (mvT hZ (ww hw 2 rfl)) (Cond.privateMethod_at (mvP hZ (ww hw 37 rfl) (args := #[]))) (mvT hZ (ww hw 36 rfl)) (by decide)) (Cond.privateMethod_at (mvP hZ (ww hw 37 rfl) (args := #[]))) (mvT hZ (ww hw 38 rfl)) (by decide) (backOf (W := 0) (rm5_2v l Z a0 hw [] a1 p2 p3 p4 bi bf bp bc bn ki kf kp kc kn IL FL PL NL CV s4 k4 t0_ t1_ t2_ t3_ k0_ f0_ k1_ f1_ (0 : Int32) h0 E_a1 F_children V_bc F_childCounts V_bn F_items V_bi F_sameEvents V_bf hp hcv hnc V_s4 hb0 hk0 hf0 hb1 hk1 hf1 hat) hZ (ww hw 38 rfl) (ww hw 3 rfl) (by decide) (by decide)) (g := (mkF m 4 #[vR a1, vI p2, vI p3, vI p4, .unset, .unset, .unset, .unset] [iI p4, iI p3, iI p2, iR a1])) rfl (by rw [hml]; rfl) (Steps.refl _) (a := a1) (by rw [e0]; exact q1) q1' (argsL := [(.int p2), (.int p3), (.int p4)]) (rest := []) (lenOf pd_2 rfl) rfl (wz rfl) (hb hby d4_4) (fun _ _ => ⟨rfl, e0, (by decide : 0 + 0 ≤ _), (by decide : 0 + 0 ≤ _)⟩)
  dsimp only [Pt.U, Pt.locs, Pt.cells, Pt.slots] at X1 l1 y1 z1 st1 hQ1
  subst l1 y1 z1
  obtain ⟨rfl, rfl, e1⟩ := hQ1
  try rw [List.append_nil] at X1
  obtain ⟨T2, X2, e2, st2⟩ := gF X1 hx hZ hown (ww hw 22 rfl) e1 F_children (g := (mkF m 10 #[vR a1, vI p2, vI p3, vI p4, vI 0, .unset, .unset, .unset] [iR a1])) rfl rfl (hb hby d4_10)
  obtain ⟨cl3, Ar3, q3, S3, M3, H3, G3⟩ := id V_bc
  have hin4 := inb_of (j := p2) S3 hp
  have hat5 : cl3.slots[(p2).toNatClampNeg]? = some (.ref s4) := Has.at H3 hin4 hcv
  obtain ⟨T6, X6, e6, st6⟩ := gF X2 hx hZ hown (ww hw 24 rfl) e2 F_childCounts (g := (mkF m 18 #[vR a1, vI p2, vI p3, vI p4, vI 0, vR s4, .unset, .unset] [iR a1])) rfl rfl (hb hby d4_18)
  obtain ⟨cl7, Ar7, q7, S7, M7, H7, G7⟩ := id V_bn
  have hin8 := inb_of (j := p2) S7 hp
  have hat9 : cl7.slots[(p2).toNatClampNeg]? = some (.int (2 : Int32)) := Has.at H7 hin8 (by rw [own_bsget, hnc])
  obtain ⟨T10, X10, e10, st10⟩ := gF X6 hx hZ hown (ww hw 13 rfl) e6 F_items (g := (mkF m 33 #[vR a1, vI p2, vI p3, vI p4, vI 0, vR s4, vI 2, .unset] [iR a1])) rfl rfl (hb hby d4_33)
  obtain ⟨cl11, Ar11, q11, S11, M11, H11, G11⟩ := id V_s4
  have hin12 := inb_of (j := (0 : Int32)) S11 ⟨by decide, by decide⟩
  obtain ⟨cl14, Ar14, q14, S14, M14, H14, G14⟩ := id V_bi
  have hin15 := inb_of (j := t0_) S14 hb0
  have hat16 : cl14.slots[(t0_).toNatClampNeg]? = some (.int k0_) := Has.at H14 hin15 (by rw [own_bsget, hk0])
  obtain ⟨T17, X17, e17, st17⟩ : own_Mid X10 h0 (mkF m 43 #[vR a1, vI p2, vI p3, vI p4, vI 0, vR s4, vI 2, .unset] [iI p3, iI k0_]) (mkF m 66 #[vR a1, vI p2, vI p3, vI p4, vI 0, vR s4, vI 2, .unset] []) := by
    by_cases hc18 : k0_ = p3
    · obtain ⟨T19, X19, e19, st19⟩ := gF X10 hx hZ hown (ww hw 16 rfl) e10 F_sameEvents (g := (mkF m 47 #[vR a1, vI p2, vI p3, vI p4, vI 0, vR s4, vI 2, .unset] [iR a1])) rfl rfl (hb hby d4_47)
      have hin20 := inb_of (j := (0 : Int32)) S11 ⟨by decide, by decide⟩
      obtain ⟨cl22, Ar22, q22, S22, M22, H22, G22⟩ := id V_bf
      have hin23 := inb_of (j := t0_) S22 hb0
      have hat24 : cl22.slots[(t0_).toNatClampNeg]? = some (.int f0_) := Has.at H22 hin23 (by rw [own_bsget, hf0])
      have pre26 : ∀ t, Steps p.tables e below (T19.setTop (mkF m 57 #[vR a1, vI p2, vI p3, vI p4, vI 0, vR s4, vI 2, .unset] [iI p4, iI f0_])) t → Steps p.tables e below (T10.setTop (mkF m 43 #[vR a1, vI p2, vI p3, vI p4, vI 0, vR s4, vI 2, .unset] [iI p3, iI k0_])) t := by
        intro t kt
        refine XS.icmpNo X10.here hx rfl (hb hby d4_43) rfl (teq hc18).2 ?_
        refine XS.aloadN X10.here hx rfl (hb hby d4_46) rfl rfl ?_
        refine st19 _ ?_
        refine XS.aload X19.here hx rfl (hb hby d4_50) rfl rfl ?_
        refine XS.iload X19.here hx rfl (hb hby d4_52) rfl ?_
        refine X19.iaload hx (j := (0 : Int32)) (v := (.int t0_)) (by rw [e19]; exact Ar11.1) (State.isArrayOf_alike hZ.alike Ar11.2.1) Ar11.2.2 hin20 (Has.at H11 hin20 rfl) (g := (mkF m 54 #[vR a1, vI p2, vI p3, vI p4, vI 0, vR s4, vI 2, .unset] [iI 0, iR s4, iR bf])) rfl rfl (hb hby d4_54) _ ?_
        refine X19.baloadBooleans hx (j := t0_) (v := (.int f0_)) (by rw [e19]; exact Ar22.1) (State.isArrayOf_alike hZ.alike Ar22.2.1) Ar22.2.2 hin23 hat24 (g := (mkF m 55 #[vR a1, vI p2, vI p3, vI p4, vI 0, vR s4, vI 2, .unset] [iI t0_, iR bf])) rfl rfl (hb hby d4_55) _ ?_
        refine XS.iloadN X19.here hx rfl (hb hby d4_56) rfl ?_
        exact kt
      by_cases hc25 : f0_ = p4
      · exfalso; exact hnf ⟨hc18, hc25⟩
      · refine ⟨T19, X19, e19, fun t kt => ?_⟩
        refine pre26 t ?_
        refine XS.icmpYes X19.here hx rfl (pc0 := 57) (pc' := 66) rfl (hb hby d4_57) rfl (feq hc25).2 (by decide) (by decide) ?_
        exact kt
    · refine ⟨T10, X10, e10, fun t kt => ?_⟩
      refine XS.icmpYes X10.here hx rfl (pc0 := 43) (pc' := 66) rfl (hb hby d4_43) rfl (feq hc18).2 (by decide) (by decide) ?_
      exact kt
  have pre27 : ∀ t, Steps p.tables e below (T17.setTop (mkF m 66 #[vR a1, vI p2, vI p3, vI p4, vI 0, vR s4, vI 2, .unset] [])) t → Steps p.tables e below (s₁.setTop (entryFrame m #[(.ref a1), (.int p2), (.int p3), (.int p4)] 8)) t := by
    intro t kt
    refine pre0 t ?_
    refine XS.aloadN X0.here hx rfl (hb hby d4_0) rfl rfl ?_
    refine XS.iloadN X0.here hx rfl (hb hby d4_1) rfl ?_
    refine XS.iloadN X0.here hx rfl (hb hby d4_2) rfl ?_
    refine XS.iloadN X0.here hx rfl (hb hby d4_3) rfl ?_
    refine st1.trans ?_
    refine XS.istore X1.here hx rfl (hb hby d4_7) rfl (l' := #[vR a1, vI p2, vI p3, vI p4, vI 0, .unset, .unset, .unset]) rfl ?_
    refine XS.aloadN X1.here hx rfl (hb hby d4_9) rfl rfl ?_
    refine st2 _ ?_
    refine XS.iloadN X2.here hx rfl (hb hby d4_13) rfl ?_
    refine X2.aaload hx (j := p2) (v := (.ref s4)) (by rw [e2]; exact Ar3.1) (State.isArrayOf_alike hZ.alike Ar3.2.1) rfl Ar3.2.2 hin4 hat5 (g := (mkF m 14 #[vR a1, vI p2, vI p3, vI p4, vI 0, .unset, .unset, .unset] [iI p2, iR bc])) rfl rfl (hb hby d4_14) _ ?_
    refine XS.astore X2.here hx rfl (hb hby d4_15) rfl rfl (l' := #[vR a1, vI p2, vI p3, vI p4, vI 0, vR s4, .unset, .unset]) rfl ?_
    refine XS.aloadN X2.here hx rfl (hb hby d4_17) rfl rfl ?_
    refine st6 _ ?_
    refine XS.iloadN X6.here hx rfl (hb hby d4_21) rfl ?_
    refine X6.iaload hx (j := p2) (v := (.int (2 : Int32))) (by rw [e6]; exact Ar7.1) (State.isArrayOf_alike hZ.alike Ar7.2.1) Ar7.2.2 hin8 hat9 (g := (mkF m 22 #[vR a1, vI p2, vI p3, vI p4, vI 0, vR s4, .unset, .unset] [iI p2, iR bn])) rfl rfl (hb hby d4_22) _ ?_
    refine XS.istore X6.here hx rfl (hb hby d4_23) rfl (l' := #[vR a1, vI p2, vI p3, vI p4, vI 0, vR s4, vI 2, .unset]) rfl ?_
    refine XS.iload X6.here hx rfl (hb hby d4_25) rfl ?_
    refine XS.iload X6.here hx rfl (hb hby d4_27) rfl ?_
    refine XS.icmpNo X6.here hx rfl (hb hby d4_29) rfl (tlt (by decide : (0 : Int32) < (2 : Int32))).2.1 ?_
    refine XS.aloadN X6.here hx rfl (hb hby d4_32) rfl rfl ?_
    refine st10 _ ?_
    refine XS.aload X10.here hx rfl (hb hby d4_36) rfl rfl ?_
    refine XS.iload X10.here hx rfl (hb hby d4_38) rfl ?_
    refine X10.iaload hx (j := (0 : Int32)) (v := (.int t0_)) (by rw [e10]; exact Ar11.1) (State.isArrayOf_alike hZ.alike Ar11.2.1) Ar11.2.2 hin12 (Has.at H11 hin12 rfl) (g := (mkF m 40 #[vR a1, vI p2, vI p3, vI p4, vI 0, vR s4, vI 2, .unset] [iI 0, iR s4, iR bi])) rfl rfl (hb hby d4_40) _ ?_
    refine X10.iaload hx (j := t0_) (v := (.int k0_)) (by rw [e10]; exact Ar14.1) (State.isArrayOf_alike hZ.alike Ar14.2.1) Ar14.2.2 hin15 hat16 (g := (mkF m 41 #[vR a1, vI p2, vI p3, vI p4, vI 0, vR s4, vI 2, .unset] [iI t0_, iR bi])) rfl rfl (hb hby d4_41) _ ?_
    refine XS.iloadN X10.here hx rfl (hb hby d4_42) rfl ?_
    refine st17 _ ?_
    exact kt
  obtain ⟨s₂, o₂, hs₂, hr₂⟩ := own_t4 (IL := IL) (FL := FL) (PL := PL) (NL := NL) (CV := CV) (SL := [t0_, t1_, t2_, t3_]) (at_ := (0 : Int32)) (c_ := (2 : Int32)) (c1_ := (3 : Int32)) (FIN := [(.int sz), (.int t0_), (.int t1_), (.int t3_)]) X17 hx hZ hw hby hml hown Bd.returns (by first | assumption | exact BodyLoose.notSynchronized (by assumption) | exact Body.notSynchronized (by assumption)) e17 K0 N0 Z0 E_a1 F_items V_bi F_sameEvents V_bf F_parents V_bp F_children V_bc F_childCounts V_bn hp V_s4 hIL hFL hPL hNL hCV hz F_size O_bc h4 g_a1 g_bi g_bf g_bp g_bc g_bn g_s4 ne_a1_bi ne_a1_bf ne_a1_bp ne_a1_bc ne_a1_bn ne_a1_s4 ne_bi_bf ne_bi_bp ne_bi_bc ne_bi_bn ne_bi_s4 ne_bf_bp ne_bf_bc ne_bf_bn ne_bf_s4 ne_bp_bc ne_bp_bn ne_bp_s4 ne_bc_bn ne_bc_s4 ne_bn_s4 E_s4 (by decide) (by decide) (by decide) (by decide) (by decide) (by decide) (by decide) rfl (Nat.le_of_ble_eq_true rfl) (by decide) rfl
  exact ⟨s₂, o₂, pre27 _ hs₂, hr₂⟩
theorem ef_4_a21 (m : MethodId) (x0 : Addr) (x1 : Int32) (x2 : Int32) (x3 : Int32) : entryFrame m #[(.ref x0), (.int x1), (.int x2), (.int x3)] 8 = mkF m 0 #[.val (.ref x0), .val (.int x1), .val (.int x2), .val (.int x3), .unset, .unset, .unset, .unset] [] := by first | (simp [entryFrame, mkF, argsToLocals, Value.category]; done) | rfl
def Q4_a21 (Z : State) (a1 : Addr) (p2 : Int32) (p3 : Int32) (p4 : Int32) (bi bf bp bc bn : Addr) (ki kf kp kc kn : ClassId) (IL FL PL NL : List Int32) (CV : List Value) (s4 : Addr) (k4 : ClassId) (t0_ t1_ t2_ t3_ : Int32) (k0_ f0_ k1_ f1_ : Int32) (sz : Int32) (h0 : Heap) (n0 : Nat) (v : Option Value) (h : Heap) (L : List Loc) : Prop := own_Q4t Z a1 p2 p3 p4 bi bf bp bc bn ki kf kp kc kn IL FL PL NL CV s4 k4 (3 : Int32) sz [(.int t0_), (.int sz), (.int t1_), (.int t3_)] h0 n0 v h L
theorem rm4_a21 (l : Launch) (Z : State) (a0 : Array Value) (hw : ∀ d ∈ tables_1, d.before a0 Z = true) (ws : List Jvm.Cond) (a1 : Addr) (p2 : Int32) (p3 : Int32) (p4 : Int32) (bi bf bp bc bn : Addr) (ki kf kp kc kn : ClassId) (IL FL PL NL : List Int32) (CV : List Value) (s4 : Addr) (k4 : ClassId) (t0_ t1_ t2_ t3_ : Int32) (k0_ f0_ k1_ f1_ : Int32) (sz : Int32) (h0 : Heap) (n0 : Nat) (Z0 : n0 ≤ h0.size) (E_a1 : Exa Z h0 a1 "com/example/tidemine/tidemine/PatternTrie") (F_items : Fld Z h0 a1 "com/example/tidemine/tidemine/PatternTrie" "items" "[I" (.ref bi)) (V_bi : Arv Z h0 bi ki .int (16 : Int32) (own_bs IL) (.int (0 : Int32))) (F_sameEvents : Fld Z h0 a1 "com/example/tidemine/tidemine/PatternTrie" "sameEvents" "[Z" (.ref bf)) (V_bf : Arv Z h0 bf kf .boolean (16 : Int32) (own_bs FL) (.int (0 : Int32))) (F_parents : Fld Z h0 a1 "com/example/tidemine/tidemine/PatternTrie" "parents" "[I" (.ref bp)) (V_bp : Arv Z h0 bp kp .int (16 : Int32) (own_bs PL) (.int (0 : Int32))) (F_children : Fld Z h0 a1 "com/example/tidemine/tidemine/PatternTrie" "children" "[[I" (.ref bc)) (V_bc : Arv Z h0 bc kc (.array .int) (16 : Int32) CV .null) (F_childCounts : Fld Z h0 a1 "com/example/tidemine/tidemine/PatternTrie" "childCounts" "[I" (.ref bn)) (V_bn : Arv Z h0 bn kn .int (16 : Int32) (own_bs NL) (.int (0 : Int32))) (hp : ¬ p2 < (0 : Int32) ∧ p2 < (16 : Int32)) (hcv : CV.getD p2.toNatClampNeg .null = .ref s4) (hnc : NL.getD p2.toNatClampNeg 0 = (2 : Int32)) (V_s4 : Arv Z h0 s4 k4 .int (4 : Int32) [(.int t0_), (.int t1_), (.int t2_), (.int t3_)] (.int (0 : Int32))) (hb0 : ¬ t0_ < (0 : Int32) ∧ t0_ < (16 : Int32)) (hk0 : IL.getD t0_.toNatClampNeg 0 = k0_) (hf0 : FL.getD t0_.toNatClampNeg 0 = f0_) (hb1 : ¬ t1_ < (0 : Int32) ∧ t1_ < (16 : Int32)) (hk1 : IL.getD t1_.toNatClampNeg 0 = k1_) (hf1 : FL.getD t1_.toNatClampNeg 0 = f1_) (hat : own_s_2 k0_ f0_ k1_ f1_ p3 p4 = (1 : Int32)) (hIL : IL.length = 16) (hFL : FL.length = 16) (hPL : PL.length = 16) (hNL : NL.length = 16) (hCV : CV.length = 16) (hz : ¬ sz < (0 : Int32) ∧ sz < (16 : Int32)) (F_size : Fld Z h0 a1 "com/example/tidemine/tidemine/PatternTrie" "size" "I" (.int sz)) (O_bc : OvrA Z kc .int "[I") (h4 : nar .boolean p4 = p4) (g_a1 : n0 ≤ a1) (g_bi : n0 ≤ bi) (g_bf : n0 ≤ bf) (g_bp : n0 ≤ bp) (g_bc : n0 ≤ bc) (g_bn : n0 ≤ bn) (g_s4 : n0 ≤ s4) (ne_a1_bi : a1 ≠ bi) (ne_a1_bf : a1 ≠ bf) (ne_a1_bp : a1 ≠ bp) (ne_a1_bc : a1 ≠ bc) (ne_a1_bn : a1 ≠ bn) (ne_a1_s4 : a1 ≠ s4) (ne_bi_bf : bi ≠ bf) (ne_bi_bp : bi ≠ bp) (ne_bi_bc : bi ≠ bc) (ne_bi_bn : bi ≠ bn) (ne_bi_s4 : bi ≠ s4) (ne_bf_bp : bf ≠ bp) (ne_bf_bc : bf ≠ bc) (ne_bf_bn : bf ≠ bn) (ne_bf_s4 : bf ≠ s4) (ne_bp_bc : bp ≠ bc) (ne_bp_bn : bp ≠ bn) (ne_bp_s4 : bp ≠ s4) (ne_bc_bn : bc ≠ bn) (ne_bc_s4 : bc ≠ s4) (ne_bn_s4 : bn ≠ s4) (E_s4 : Exa Z h0 s4 "[I") (hnf : ¬ (k1_ = p3 ∧ f1_ = p4)) :
    MetFree l mn_3 (head1 (Jvm.Cond.code mn_3 prog_23_method_3_code 8 (some .int) :: ws) ({ frames := 2, cells := 1, slots := 4, locals := 35 } : Room)) (fun a U => a = #[(.ref a1), (.int p2), (.int p3), (.int p4)] ∧ Z.Warmed39 U.vm ∧ U.heap = h0) (fun _ _ _ _ _ => True) (fun _ U o U' => ∃ v L, o = .returned v ∧ Q4_a21 Z a1 p2 p3 p4 bi bf bp bc bn ki kf kp kc kn IL FL PL NL CV s4 k4 t0_ t1_ t2_ t3_ k0_ f0_ k1_ f1_ sz h0 n0 v U'.heap L ∧ FrameEnd U o U' L ({ frames := 2, cells := 1, slots := 4, locals := 35 } : Room).cells ({ frames := 2, cells := 1, slots := 4, locals := 35 } : Room).slots) := by
  refine MetFree.of_bodySF (plainFor_of_name pn_2) hisR ?_
  intro p e s m args below meth c s₁ Bd hml0 hP hK
  obtain ⟨rfl, hZ, hh⟩ := hP
  have hx := Bd.exec
  have hby := Bd.bytes
  have hml : c.maxLocals = 8 := hml0
  have hown : s.vm.findClass "com/example/tidemine/tidemine/PatternTrie" = some m.cls := findClass_of_methodNamed Bd.named
  have hnm := (name_of_methodNamed Bd.named Bd.method).1
  have X0 : Stand p l e ({ frames := 2, cells := 1, slots := 4, locals := 35 } : Room) s m #[(.ref a1), (.int p2), (.int p3), (.int p4)] below meth c s₁ [] 0 0 := Stand.of_body Bd
  have e0 : s₁.heap = h0 := by rw [← hh, Bd.state]; rfl
  have N0 := Fr.nil n0
  have K0 := Keep.refl h0 [a1, bi, bf, bp, bc, bn, s4]
  have pre0 : ∀ t, Steps p.tables e below (s₁.setTop (mkF m 0 #[.val (.ref a1), .val (.int p2), .val (.int p3), .val (.int p4), .unset, .unset, .unset, .unset] [])) t → Steps p.tables e below (s₁.setTop (entryFrame m #[(.ref a1), (.int p2), (.int p3), (.int p4)] 8)) t := fun t k => castTop (ef_4_a21 m a1 p2 p3 p4) k
  obtain ⟨cq1, q1, q1'⟩ := E_a1.cell
  obtain ⟨_, _, ⟨T1, L1, k1, n1⟩, -, X1, ⟨Lc1, hQ1, l1, y1, z1⟩, st1⟩ := X0.privateBack hx (y := mn_2) hown (mvT hZ (ww hw 35 rfl)) (mvT hZ (ww hw 36 rfl)) (own_selPriv (mvT hZ (ww hw 2 rfl)) (Cond.privateMethod_at (mvP hZ (ww hw 37 rfl) (args := #[]))) (mvT hZ (ww hw 36 rfl)) (by decide)) (Cond.privateMethod_at (mvP hZ (ww hw 37 rfl) (args := #[]))) (mvT hZ (ww hw 38 rfl)) (by decide) (backOf (W := 0) (rm5_2v l Z a0 hw [] a1 p2 p3 p4 bi bf bp bc bn ki kf kp kc kn IL FL PL NL CV s4 k4 t0_ t1_ t2_ t3_ k0_ f0_ k1_ f1_ (1 : Int32) h0 E_a1 F_children V_bc F_childCounts V_bn F_items V_bi F_sameEvents V_bf hp hcv hnc V_s4 hb0 hk0 hf0 hb1 hk1 hf1 hat) hZ (ww hw 38 rfl) (ww hw 3 rfl) (by decide) (by decide)) (g := (mkF m 4 #[vR a1, vI p2, vI p3, vI p4, .unset, .unset, .unset, .unset] [iI p4, iI p3, iI p2, iR a1])) rfl (by rw [hml]; rfl) (Steps.refl _) (a := a1) (by rw [e0]; exact q1) q1' (argsL := [(.int p2), (.int p3), (.int p4)]) (rest := []) (lenOf pd_2 rfl) rfl (wz rfl) (hb hby d4_4) (fun _ _ => ⟨rfl, e0, (by decide : 0 + 0 ≤ _), (by decide : 0 + 0 ≤ _)⟩)
  dsimp only [Pt.U, Pt.locs, Pt.cells, Pt.slots] at X1 l1 y1 z1 st1 hQ1
  subst l1 y1 z1
  obtain ⟨rfl, rfl, e1⟩ := hQ1
  try rw [List.append_nil] at X1
  obtain ⟨T2, X2, e2, st2⟩ := gF X1 hx hZ hown (ww hw 22 rfl) e1 F_children (g := (mkF m 10 #[vR a1, vI p2, vI p3, vI p4, vI 1, .unset, .unset, .unset] [iR a1])) rfl rfl (hb hby d4_10)
  obtain ⟨cl3, Ar3, q3, S3, M3, H3, G3⟩ := id V_bc
  have hin4 := inb_of (j := p2) S3 hp
  have hat5 : cl3.slots[(p2).toNatClampNeg]? = some (.ref s4) := Has.at H3 hin4 hcv
  obtain ⟨T6, X6, e6, st6⟩ := gF X2 hx hZ hown (ww hw 24 rfl) e2 F_childCounts (g := (mkF m 18 #[vR a1, vI p2, vI p3, vI p4, vI 1, vR s4, .unset, .unset] [iR a1])) rfl rfl (hb hby d4_18)
  obtain ⟨cl7, Ar7, q7, S7, M7, H7, G7⟩ := id V_bn
  have hin8 := inb_of (j := p2) S7 hp
  have hat9 : cl7.slots[(p2).toNatClampNeg]? = some (.int (2 : Int32)) := Has.at H7 hin8 (by rw [own_bsget, hnc])
  obtain ⟨T10, X10, e10, st10⟩ := gF X6 hx hZ hown (ww hw 13 rfl) e6 F_items (g := (mkF m 33 #[vR a1, vI p2, vI p3, vI p4, vI 1, vR s4, vI 2, .unset] [iR a1])) rfl rfl (hb hby d4_33)
  obtain ⟨cl11, Ar11, q11, S11, M11, H11, G11⟩ := id V_s4
  have hin12 := inb_of (j := (1 : Int32)) S11 ⟨by decide, by decide⟩
  obtain ⟨cl14, Ar14, q14, S14, M14, H14, G14⟩ := id V_bi
  have hin15 := inb_of (j := t1_) S14 hb1
  have hat16 : cl14.slots[(t1_).toNatClampNeg]? = some (.int k1_) := Has.at H14 hin15 (by rw [own_bsget, hk1])
  obtain ⟨T17, X17, e17, st17⟩ : own_Mid X10 h0 (mkF m 43 #[vR a1, vI p2, vI p3, vI p4, vI 1, vR s4, vI 2, .unset] [iI p3, iI k1_]) (mkF m 66 #[vR a1, vI p2, vI p3, vI p4, vI 1, vR s4, vI 2, .unset] []) := by
    by_cases hc18 : k1_ = p3
    · obtain ⟨T19, X19, e19, st19⟩ := gF X10 hx hZ hown (ww hw 16 rfl) e10 F_sameEvents (g := (mkF m 47 #[vR a1, vI p2, vI p3, vI p4, vI 1, vR s4, vI 2, .unset] [iR a1])) rfl rfl (hb hby d4_47)
      have hin20 := inb_of (j := (1 : Int32)) S11 ⟨by decide, by decide⟩
      obtain ⟨cl22, Ar22, q22, S22, M22, H22, G22⟩ := id V_bf
      have hin23 := inb_of (j := t1_) S22 hb1
      have hat24 : cl22.slots[(t1_).toNatClampNeg]? = some (.int f1_) := Has.at H22 hin23 (by rw [own_bsget, hf1])
      have pre26 : ∀ t, Steps p.tables e below (T19.setTop (mkF m 57 #[vR a1, vI p2, vI p3, vI p4, vI 1, vR s4, vI 2, .unset] [iI p4, iI f1_])) t → Steps p.tables e below (T10.setTop (mkF m 43 #[vR a1, vI p2, vI p3, vI p4, vI 1, vR s4, vI 2, .unset] [iI p3, iI k1_])) t := by
        intro t kt
        refine XS.icmpNo X10.here hx rfl (hb hby d4_43) rfl (teq hc18).2 ?_
        refine XS.aloadN X10.here hx rfl (hb hby d4_46) rfl rfl ?_
        refine st19 _ ?_
        refine XS.aload X19.here hx rfl (hb hby d4_50) rfl rfl ?_
        refine XS.iload X19.here hx rfl (hb hby d4_52) rfl ?_
        refine X19.iaload hx (j := (1 : Int32)) (v := (.int t1_)) (by rw [e19]; exact Ar11.1) (State.isArrayOf_alike hZ.alike Ar11.2.1) Ar11.2.2 hin20 (Has.at H11 hin20 rfl) (g := (mkF m 54 #[vR a1, vI p2, vI p3, vI p4, vI 1, vR s4, vI 2, .unset] [iI 1, iR s4, iR bf])) rfl rfl (hb hby d4_54) _ ?_
        refine X19.baloadBooleans hx (j := t1_) (v := (.int f1_)) (by rw [e19]; exact Ar22.1) (State.isArrayOf_alike hZ.alike Ar22.2.1) Ar22.2.2 hin23 hat24 (g := (mkF m 55 #[vR a1, vI p2, vI p3, vI p4, vI 1, vR s4, vI 2, .unset] [iI t1_, iR bf])) rfl rfl (hb hby d4_55) _ ?_
        refine XS.iloadN X19.here hx rfl (hb hby d4_56) rfl ?_
        exact kt
      by_cases hc25 : f1_ = p4
      · exfalso; exact hnf ⟨hc18, hc25⟩
      · refine ⟨T19, X19, e19, fun t kt => ?_⟩
        refine pre26 t ?_
        refine XS.icmpYes X19.here hx rfl (pc0 := 57) (pc' := 66) rfl (hb hby d4_57) rfl (feq hc25).2 (by decide) (by decide) ?_
        exact kt
    · refine ⟨T10, X10, e10, fun t kt => ?_⟩
      refine XS.icmpYes X10.here hx rfl (pc0 := 43) (pc' := 66) rfl (hb hby d4_43) rfl (feq hc18).2 (by decide) (by decide) ?_
      exact kt
  have pre27 : ∀ t, Steps p.tables e below (T17.setTop (mkF m 66 #[vR a1, vI p2, vI p3, vI p4, vI 1, vR s4, vI 2, .unset] [])) t → Steps p.tables e below (s₁.setTop (entryFrame m #[(.ref a1), (.int p2), (.int p3), (.int p4)] 8)) t := by
    intro t kt
    refine pre0 t ?_
    refine XS.aloadN X0.here hx rfl (hb hby d4_0) rfl rfl ?_
    refine XS.iloadN X0.here hx rfl (hb hby d4_1) rfl ?_
    refine XS.iloadN X0.here hx rfl (hb hby d4_2) rfl ?_
    refine XS.iloadN X0.here hx rfl (hb hby d4_3) rfl ?_
    refine st1.trans ?_
    refine XS.istore X1.here hx rfl (hb hby d4_7) rfl (l' := #[vR a1, vI p2, vI p3, vI p4, vI 1, .unset, .unset, .unset]) rfl ?_
    refine XS.aloadN X1.here hx rfl (hb hby d4_9) rfl rfl ?_
    refine st2 _ ?_
    refine XS.iloadN X2.here hx rfl (hb hby d4_13) rfl ?_
    refine X2.aaload hx (j := p2) (v := (.ref s4)) (by rw [e2]; exact Ar3.1) (State.isArrayOf_alike hZ.alike Ar3.2.1) rfl Ar3.2.2 hin4 hat5 (g := (mkF m 14 #[vR a1, vI p2, vI p3, vI p4, vI 1, .unset, .unset, .unset] [iI p2, iR bc])) rfl rfl (hb hby d4_14) _ ?_
    refine XS.astore X2.here hx rfl (hb hby d4_15) rfl rfl (l' := #[vR a1, vI p2, vI p3, vI p4, vI 1, vR s4, .unset, .unset]) rfl ?_
    refine XS.aloadN X2.here hx rfl (hb hby d4_17) rfl rfl ?_
    refine st6 _ ?_
    refine XS.iloadN X6.here hx rfl (hb hby d4_21) rfl ?_
    refine X6.iaload hx (j := p2) (v := (.int (2 : Int32))) (by rw [e6]; exact Ar7.1) (State.isArrayOf_alike hZ.alike Ar7.2.1) Ar7.2.2 hin8 hat9 (g := (mkF m 22 #[vR a1, vI p2, vI p3, vI p4, vI 1, vR s4, .unset, .unset] [iI p2, iR bn])) rfl rfl (hb hby d4_22) _ ?_
    refine XS.istore X6.here hx rfl (hb hby d4_23) rfl (l' := #[vR a1, vI p2, vI p3, vI p4, vI 1, vR s4, vI 2, .unset]) rfl ?_
    refine XS.iload X6.here hx rfl (hb hby d4_25) rfl ?_
    refine XS.iload X6.here hx rfl (hb hby d4_27) rfl ?_
    refine XS.icmpNo X6.here hx rfl (hb hby d4_29) rfl (tlt (by decide : (1 : Int32) < (2 : Int32))).2.1 ?_
    refine XS.aloadN X6.here hx rfl (hb hby d4_32) rfl rfl ?_
    refine st10 _ ?_
    refine XS.aload X10.here hx rfl (hb hby d4_36) rfl rfl ?_
    refine XS.iload X10.here hx rfl (hb hby d4_38) rfl ?_
    refine X10.iaload hx (j := (1 : Int32)) (v := (.int t1_)) (by rw [e10]; exact Ar11.1) (State.isArrayOf_alike hZ.alike Ar11.2.1) Ar11.2.2 hin12 (Has.at H11 hin12 rfl) (g := (mkF m 40 #[vR a1, vI p2, vI p3, vI p4, vI 1, vR s4, vI 2, .unset] [iI 1, iR s4, iR bi])) rfl rfl (hb hby d4_40) _ ?_
    refine X10.iaload hx (j := t1_) (v := (.int k1_)) (by rw [e10]; exact Ar14.1) (State.isArrayOf_alike hZ.alike Ar14.2.1) Ar14.2.2 hin15 hat16 (g := (mkF m 41 #[vR a1, vI p2, vI p3, vI p4, vI 1, vR s4, vI 2, .unset] [iI t1_, iR bi])) rfl rfl (hb hby d4_41) _ ?_
    refine XS.iloadN X10.here hx rfl (hb hby d4_42) rfl ?_
    refine st17 _ ?_
    exact kt
  obtain ⟨s₂, o₂, hs₂, hr₂⟩ := own_t4 (IL := IL) (FL := FL) (PL := PL) (NL := NL) (CV := CV) (SL := [t0_, t1_, t2_, t3_]) (at_ := (1 : Int32)) (c_ := (2 : Int32)) (c1_ := (3 : Int32)) (FIN := [(.int t0_), (.int sz), (.int t1_), (.int t3_)]) X17 hx hZ hw hby hml hown Bd.returns (by first | assumption | exact BodyLoose.notSynchronized (by assumption) | exact Body.notSynchronized (by assumption)) e17 K0 N0 Z0 E_a1 F_items V_bi F_sameEvents V_bf F_parents V_bp F_children V_bc F_childCounts V_bn hp V_s4 hIL hFL hPL hNL hCV hz F_size O_bc h4 g_a1 g_bi g_bf g_bp g_bc g_bn g_s4 ne_a1_bi ne_a1_bf ne_a1_bp ne_a1_bc ne_a1_bn ne_a1_s4 ne_bi_bf ne_bi_bp ne_bi_bc ne_bi_bn ne_bi_s4 ne_bf_bp ne_bf_bc ne_bf_bn ne_bf_s4 ne_bp_bc ne_bp_bn ne_bp_s4 ne_bc_bn ne_bc_s4 ne_bn_s4 E_s4 (by decide) (by decide) (by decide) (by decide) (by decide) (by decide) (by decide) rfl (Nat.le_of_ble_eq_true rfl) (by decide) rfl
  exact ⟨s₂, o₂, pre27 _ hs₂, hr₂⟩
theorem ef_4_a22 (m : MethodId) (x0 : Addr) (x1 : Int32) (x2 : Int32) (x3 : Int32) : entryFrame m #[(.ref x0), (.int x1), (.int x2), (.int x3)] 8 = mkF m 0 #[.val (.ref x0), .val (.int x1), .val (.int x2), .val (.int x3), .unset, .unset, .unset, .unset] [] := by first | (simp [entryFrame, mkF, argsToLocals, Value.category]; done) | rfl
def Q4_a22 (Z : State) (a1 : Addr) (p2 : Int32) (p3 : Int32) (p4 : Int32) (bi bf bp bc bn : Addr) (ki kf kp kc kn : ClassId) (IL FL PL NL : List Int32) (CV : List Value) (s4 : Addr) (k4 : ClassId) (t0_ t1_ t2_ t3_ : Int32) (k0_ f0_ k1_ f1_ : Int32) (sz : Int32) (h0 : Heap) (n0 : Nat) (v : Option Value) (h : Heap) (L : List Loc) : Prop := own_Q4t Z a1 p2 p3 p4 bi bf bp bc bn ki kf kp kc kn IL FL PL NL CV s4 k4 (3 : Int32) sz [(.int t0_), (.int t1_), (.int sz), (.int t3_)] h0 n0 v h L
theorem rm4_a22 (l : Launch) (Z : State) (a0 : Array Value) (hw : ∀ d ∈ tables_1, d.before a0 Z = true) (ws : List Jvm.Cond) (a1 : Addr) (p2 : Int32) (p3 : Int32) (p4 : Int32) (bi bf bp bc bn : Addr) (ki kf kp kc kn : ClassId) (IL FL PL NL : List Int32) (CV : List Value) (s4 : Addr) (k4 : ClassId) (t0_ t1_ t2_ t3_ : Int32) (k0_ f0_ k1_ f1_ : Int32) (sz : Int32) (h0 : Heap) (n0 : Nat) (Z0 : n0 ≤ h0.size) (E_a1 : Exa Z h0 a1 "com/example/tidemine/tidemine/PatternTrie") (F_items : Fld Z h0 a1 "com/example/tidemine/tidemine/PatternTrie" "items" "[I" (.ref bi)) (V_bi : Arv Z h0 bi ki .int (16 : Int32) (own_bs IL) (.int (0 : Int32))) (F_sameEvents : Fld Z h0 a1 "com/example/tidemine/tidemine/PatternTrie" "sameEvents" "[Z" (.ref bf)) (V_bf : Arv Z h0 bf kf .boolean (16 : Int32) (own_bs FL) (.int (0 : Int32))) (F_parents : Fld Z h0 a1 "com/example/tidemine/tidemine/PatternTrie" "parents" "[I" (.ref bp)) (V_bp : Arv Z h0 bp kp .int (16 : Int32) (own_bs PL) (.int (0 : Int32))) (F_children : Fld Z h0 a1 "com/example/tidemine/tidemine/PatternTrie" "children" "[[I" (.ref bc)) (V_bc : Arv Z h0 bc kc (.array .int) (16 : Int32) CV .null) (F_childCounts : Fld Z h0 a1 "com/example/tidemine/tidemine/PatternTrie" "childCounts" "[I" (.ref bn)) (V_bn : Arv Z h0 bn kn .int (16 : Int32) (own_bs NL) (.int (0 : Int32))) (hp : ¬ p2 < (0 : Int32) ∧ p2 < (16 : Int32)) (hcv : CV.getD p2.toNatClampNeg .null = .ref s4) (hnc : NL.getD p2.toNatClampNeg 0 = (2 : Int32)) (V_s4 : Arv Z h0 s4 k4 .int (4 : Int32) [(.int t0_), (.int t1_), (.int t2_), (.int t3_)] (.int (0 : Int32))) (hb0 : ¬ t0_ < (0 : Int32) ∧ t0_ < (16 : Int32)) (hk0 : IL.getD t0_.toNatClampNeg 0 = k0_) (hf0 : FL.getD t0_.toNatClampNeg 0 = f0_) (hb1 : ¬ t1_ < (0 : Int32) ∧ t1_ < (16 : Int32)) (hk1 : IL.getD t1_.toNatClampNeg 0 = k1_) (hf1 : FL.getD t1_.toNatClampNeg 0 = f1_) (hat : own_s_2 k0_ f0_ k1_ f1_ p3 p4 = (2 : Int32)) (hIL : IL.length = 16) (hFL : FL.length = 16) (hPL : PL.length = 16) (hNL : NL.length = 16) (hCV : CV.length = 16) (hz : ¬ sz < (0 : Int32) ∧ sz < (16 : Int32)) (F_size : Fld Z h0 a1 "com/example/tidemine/tidemine/PatternTrie" "size" "I" (.int sz)) (O_bc : OvrA Z kc .int "[I") (h4 : nar .boolean p4 = p4) (g_a1 : n0 ≤ a1) (g_bi : n0 ≤ bi) (g_bf : n0 ≤ bf) (g_bp : n0 ≤ bp) (g_bc : n0 ≤ bc) (g_bn : n0 ≤ bn) (g_s4 : n0 ≤ s4) (ne_a1_bi : a1 ≠ bi) (ne_a1_bf : a1 ≠ bf) (ne_a1_bp : a1 ≠ bp) (ne_a1_bc : a1 ≠ bc) (ne_a1_bn : a1 ≠ bn) (ne_a1_s4 : a1 ≠ s4) (ne_bi_bf : bi ≠ bf) (ne_bi_bp : bi ≠ bp) (ne_bi_bc : bi ≠ bc) (ne_bi_bn : bi ≠ bn) (ne_bi_s4 : bi ≠ s4) (ne_bf_bp : bf ≠ bp) (ne_bf_bc : bf ≠ bc) (ne_bf_bn : bf ≠ bn) (ne_bf_s4 : bf ≠ s4) (ne_bp_bc : bp ≠ bc) (ne_bp_bn : bp ≠ bn) (ne_bp_s4 : bp ≠ s4) (ne_bc_bn : bc ≠ bn) (ne_bc_s4 : bc ≠ s4) (ne_bn_s4 : bn ≠ s4) (E_s4 : Exa Z h0 s4 "[I") :
    MetFree l mn_3 (head1 (Jvm.Cond.code mn_3 prog_23_method_3_code 8 (some .int) :: ws) ({ frames := 2, cells := 1, slots := 4, locals := 35 } : Room)) (fun a U => a = #[(.ref a1), (.int p2), (.int p3), (.int p4)] ∧ Z.Warmed39 U.vm ∧ U.heap = h0) (fun _ _ _ _ _ => True) (fun _ U o U' => ∃ v L, o = .returned v ∧ Q4_a22 Z a1 p2 p3 p4 bi bf bp bc bn ki kf kp kc kn IL FL PL NL CV s4 k4 t0_ t1_ t2_ t3_ k0_ f0_ k1_ f1_ sz h0 n0 v U'.heap L ∧ FrameEnd U o U' L ({ frames := 2, cells := 1, slots := 4, locals := 35 } : Room).cells ({ frames := 2, cells := 1, slots := 4, locals := 35 } : Room).slots) := by
  refine MetFree.of_bodySF (plainFor_of_name pn_2) hisR ?_
  intro p e s m args below meth c s₁ Bd hml0 hP hK
  obtain ⟨rfl, hZ, hh⟩ := hP
  have hx := Bd.exec
  have hby := Bd.bytes
  have hml : c.maxLocals = 8 := hml0
  have hown : s.vm.findClass "com/example/tidemine/tidemine/PatternTrie" = some m.cls := findClass_of_methodNamed Bd.named
  have hnm := (name_of_methodNamed Bd.named Bd.method).1
  have X0 : Stand p l e ({ frames := 2, cells := 1, slots := 4, locals := 35 } : Room) s m #[(.ref a1), (.int p2), (.int p3), (.int p4)] below meth c s₁ [] 0 0 := Stand.of_body Bd
  have e0 : s₁.heap = h0 := by rw [← hh, Bd.state]; rfl
  have N0 := Fr.nil n0
  have K0 := Keep.refl h0 [a1, bi, bf, bp, bc, bn, s4]
  have pre0 : ∀ t, Steps p.tables e below (s₁.setTop (mkF m 0 #[.val (.ref a1), .val (.int p2), .val (.int p3), .val (.int p4), .unset, .unset, .unset, .unset] [])) t → Steps p.tables e below (s₁.setTop (entryFrame m #[(.ref a1), (.int p2), (.int p3), (.int p4)] 8)) t := fun t k => castTop (ef_4_a22 m a1 p2 p3 p4) k
  obtain ⟨cq1, q1, q1'⟩ := E_a1.cell
  obtain ⟨_, _, ⟨T1, L1, k1, n1⟩, -, X1, ⟨Lc1, hQ1, l1, y1, z1⟩, st1⟩ := X0.privateBack hx (y := mn_2) hown (mvT hZ (ww hw 35 rfl)) (mvT hZ (ww hw 36 rfl)) (own_selPriv (mvT hZ (ww hw 2 rfl)) (Cond.privateMethod_at (mvP hZ (ww hw 37 rfl) (args := #[]))) (mvT hZ (ww hw 36 rfl)) (by decide)) (Cond.privateMethod_at (mvP hZ (ww hw 37 rfl) (args := #[]))) (mvT hZ (ww hw 38 rfl)) (by decide) (backOf (W := 0) (rm5_2v l Z a0 hw [] a1 p2 p3 p4 bi bf bp bc bn ki kf kp kc kn IL FL PL NL CV s4 k4 t0_ t1_ t2_ t3_ k0_ f0_ k1_ f1_ (2 : Int32) h0 E_a1 F_children V_bc F_childCounts V_bn F_items V_bi F_sameEvents V_bf hp hcv hnc V_s4 hb0 hk0 hf0 hb1 hk1 hf1 hat) hZ (ww hw 38 rfl) (ww hw 3 rfl) (by decide) (by decide)) (g := (mkF m 4 #[vR a1, vI p2, vI p3, vI p4, .unset, .unset, .unset, .unset] [iI p4, iI p3, iI p2, iR a1])) rfl (by rw [hml]; rfl) (Steps.refl _) (a := a1) (by rw [e0]; exact q1) q1' (argsL := [(.int p2), (.int p3), (.int p4)]) (rest := []) (lenOf pd_2 rfl) rfl (wz rfl) (hb hby d4_4) (fun _ _ => ⟨rfl, e0, (by decide : 0 + 0 ≤ _), (by decide : 0 + 0 ≤ _)⟩)
  dsimp only [Pt.U, Pt.locs, Pt.cells, Pt.slots] at X1 l1 y1 z1 st1 hQ1
  subst l1 y1 z1
  obtain ⟨rfl, rfl, e1⟩ := hQ1
  try rw [List.append_nil] at X1
  obtain ⟨T2, X2, e2, st2⟩ := gF X1 hx hZ hown (ww hw 22 rfl) e1 F_children (g := (mkF m 10 #[vR a1, vI p2, vI p3, vI p4, vI 2, .unset, .unset, .unset] [iR a1])) rfl rfl (hb hby d4_10)
  obtain ⟨cl3, Ar3, q3, S3, M3, H3, G3⟩ := id V_bc
  have hin4 := inb_of (j := p2) S3 hp
  have hat5 : cl3.slots[(p2).toNatClampNeg]? = some (.ref s4) := Has.at H3 hin4 hcv
  obtain ⟨T6, X6, e6, st6⟩ := gF X2 hx hZ hown (ww hw 24 rfl) e2 F_childCounts (g := (mkF m 18 #[vR a1, vI p2, vI p3, vI p4, vI 2, vR s4, .unset, .unset] [iR a1])) rfl rfl (hb hby d4_18)
  obtain ⟨cl7, Ar7, q7, S7, M7, H7, G7⟩ := id V_bn
  have hin8 := inb_of (j := p2) S7 hp
  have hat9 : cl7.slots[(p2).toNatClampNeg]? = some (.int (2 : Int32)) := Has.at H7 hin8 (by rw [own_bsget, hnc])
  have pre10 : ∀ t, Steps p.tables e below (T6.setTop (mkF m 66 #[vR a1, vI p2, vI p3, vI p4, vI 2, vR s4, vI 2, .unset] [])) t → Steps p.tables e below (s₁.setTop (entryFrame m #[(.ref a1), (.int p2), (.int p3), (.int p4)] 8)) t := by
    intro t kt
    refine pre0 t ?_
    refine XS.aloadN X0.here hx rfl (hb hby d4_0) rfl rfl ?_
    refine XS.iloadN X0.here hx rfl (hb hby d4_1) rfl ?_
    refine XS.iloadN X0.here hx rfl (hb hby d4_2) rfl ?_
    refine XS.iloadN X0.here hx rfl (hb hby d4_3) rfl ?_
    refine st1.trans ?_
    refine XS.istore X1.here hx rfl (hb hby d4_7) rfl (l' := #[vR a1, vI p2, vI p3, vI p4, vI 2, .unset, .unset, .unset]) rfl ?_
    refine XS.aloadN X1.here hx rfl (hb hby d4_9) rfl rfl ?_
    refine st2 _ ?_
    refine XS.iloadN X2.here hx rfl (hb hby d4_13) rfl ?_
    refine X2.aaload hx (j := p2) (v := (.ref s4)) (by rw [e2]; exact Ar3.1) (State.isArrayOf_alike hZ.alike Ar3.2.1) rfl Ar3.2.2 hin4 hat5 (g := (mkF m 14 #[vR a1, vI p2, vI p3, vI p4, vI 2, .unset, .unset, .unset] [iI p2, iR bc])) rfl rfl (hb hby d4_14) _ ?_
    refine XS.astore X2.here hx rfl (hb hby d4_15) rfl rfl (l' := #[vR a1, vI p2, vI p3, vI p4, vI 2, vR s4, .unset, .unset]) rfl ?_
    refine XS.aloadN X2.here hx rfl (hb hby d4_17) rfl rfl ?_
    refine st6 _ ?_
    refine XS.iloadN X6.here hx rfl (hb hby d4_21) rfl ?_
    refine X6.iaload hx (j := p2) (v := (.int (2 : Int32))) (by rw [e6]; exact Ar7.1) (State.isArrayOf_alike hZ.alike Ar7.2.1) Ar7.2.2 hin8 hat9 (g := (mkF m 22 #[vR a1, vI p2, vI p3, vI p4, vI 2, vR s4, .unset, .unset] [iI p2, iR bn])) rfl rfl (hb hby d4_22) _ ?_
    refine XS.istore X6.here hx rfl (hb hby d4_23) rfl (l' := #[vR a1, vI p2, vI p3, vI p4, vI 2, vR s4, vI 2, .unset]) rfl ?_
    refine XS.iload X6.here hx rfl (hb hby d4_25) rfl ?_
    refine XS.iload X6.here hx rfl (hb hby d4_27) rfl ?_
    refine XS.icmpYes X6.here hx rfl (pc0 := 29) (pc' := 66) rfl (hb hby d4_29) rfl (flt (by decide : ¬ ((2 : Int32) < (2 : Int32)))).2.1 (by decide) (by decide) ?_
    exact kt
  obtain ⟨s₂, o₂, hs₂, hr₂⟩ := own_t4 (IL := IL) (FL := FL) (PL := PL) (NL := NL) (CV := CV) (SL := [t0_, t1_, t2_, t3_]) (at_ := (2 : Int32)) (c_ := (2 : Int32)) (c1_ := (3 : Int32)) (FIN := [(.int t0_), (.int t1_), (.int sz), (.int t3_)]) X6 hx hZ hw hby hml hown Bd.returns (by first | assumption | exact BodyLoose.notSynchronized (by assumption) | exact Body.notSynchronized (by assumption)) e6 K0 N0 Z0 E_a1 F_items V_bi F_sameEvents V_bf F_parents V_bp F_children V_bc F_childCounts V_bn hp V_s4 hIL hFL hPL hNL hCV hz F_size O_bc h4 g_a1 g_bi g_bf g_bp g_bc g_bn g_s4 ne_a1_bi ne_a1_bf ne_a1_bp ne_a1_bc ne_a1_bn ne_a1_s4 ne_bi_bf ne_bi_bp ne_bi_bc ne_bi_bn ne_bi_s4 ne_bf_bp ne_bf_bc ne_bf_bn ne_bf_s4 ne_bp_bc ne_bp_bn ne_bp_s4 ne_bc_bn ne_bc_s4 ne_bn_s4 E_s4 (by decide) (by decide) (by decide) (by decide) (by decide) (by decide) (by decide) rfl (Nat.le_of_ble_eq_true rfl) (by decide) rfl
  exact ⟨s₂, o₂, pre10 _ hs₂, hr₂⟩
def own_kp (I F : List Int32) (e : Int32) : Int := 2 * (I.getD e.toNatClampNeg 0).toInt + (F.getD e.toNatClampNeg 0).toInt
def own_ins (κ : Int32 → Int) (e : Int32) : List Int32 → List Int32
  | [] => [e]
  | a :: l => if κ a < κ e then a :: own_ins κ e l else e :: a :: l
def own_E0 (κ : Int32 → Int) (n : Nat) : List Int32 := if n ≤ 1 then [] else if n ≤ 2 then [1] else if n ≤ 4 then own_ins κ 2 [1] else own_ins κ 4 (own_ins κ 2 [1])
def own_E1 (n : Nat) : List Int32 := if n ≤ 3 then [] else [3]
def own_E2 (κ : Int32 → Int) (n : Nat) : List Int32 := if n ≤ 5 then [] else if n ≤ 6 then [5] else own_ins κ 6 [5]
def own_NL (n : Nat) : List Int32 := [if n ≤ 1 then 0 else if n ≤ 2 then 1 else if n ≤ 4 then 2 else 3, if n ≤ 3 then 0 else 1, if n ≤ 5 then 0 else if n ≤ 6 then 1 else 2, 0, 0, 0, 0, 0, 0, 0, 0, 0, 0, 0, 0, 0]
def own_par : List Int32 := [0, 0, 0, 1, 0, 2, 2]
/-- the key of an item and a flag -/
def own_kv (k f : Int32) : Int := 2 * k.toInt + f.toInt
theorem own_icI (a b : Int32) : (own_ic a b < (0 : Int32) ↔ a.toInt < b.toInt) ∧ (own_ic a b = (0 : Int32) ↔ a.toInt = b.toInt) := by
  unfold own_ic
  have e0 : (0 : Int32).toInt = 0 := rfl
  by_cases h1 : a < b
  · rw [if_pos h1]
    rw [Int32.lt_iff_toInt_lt] at h1
    constructor
    · constructor
      · intro _; exact h1
      · intro _; decide
    · constructor
      · intro h; exact absurd h (by decide)
      · intro h; omega
  · rw [if_neg h1]
    rw [Int32.lt_iff_toInt_lt] at h1
    by_cases h2 : a = b
    · rw [if_pos h2]
      subst h2
      constructor
      · constructor
        · intro h; exact absurd h (by decide)
        · intro h; omega
      · simp
    · rw [if_neg h2]
      have h3 : ¬ a.toInt = b.toInt := fun q => h2 (Int32.toInt_inj.mp q)
      constructor
      · constructor
        · intro h; exact absurd h (by decide)
        · intro h; omega
      · constructor
        · intro h; exact absurd h (by decide)
        · intro h; omega
theorem own_bcI {f g : Int32} (hf : f = 0 ∨ f = 1) (hg : g = 0 ∨ g = 1) : (own_bc f g < (0 : Int32) ↔ f.toInt < g.toInt) := by
  rcases hf with rfl | rfl <;> rcases hg with rfl | rfl <;> decide
/-- one comparison: by the keys -/
theorem own_ordI {k f i g : Int32} (hf : f = 0 ∨ f = 1) (hg : g = 0 ∨ g = 1) : ((if (own_ic k i) = (0 : Int32) then (own_bc f g) else (own_ic k i)) < (0 : Int32)) = (own_kv k f < own_kv i g) := by
  have h1 := own_icI k i
  have h2 := own_bcI hf hg
  have e0 : (0 : Int32).toInt = 0 := rfl
  have e1 : (1 : Int32).toInt = 1 := rfl
  have f1 : 0 ≤ f.toInt ∧ f.toInt ≤ 1 := by rcases hf with rfl | rfl <;> decide
  have g1 : 0 ≤ g.toInt ∧ g.toInt ≤ 1 := by rcases hg with rfl | rfl <;> decide
  apply propext
  unfold own_kv
  by_cases hq : own_ic k i = (0 : Int32)
  · rw [if_pos hq]
    have := h1.2.mp hq
    rw [h2]; omega
  · rw [if_neg hq, h1.1]
    have : ¬ k.toInt = i.toInt := fun q => hq (h1.2.mpr q)
    omega
theorem own_kvI {k f i g : Int32} (hf : f = 0 ∨ f = 1) (hg : g = 0 ∨ g = 1) (h : own_kv k f = own_kv i g) : k = i ∧ f = g := by
  unfold own_kv at h
  have f1 : 0 ≤ f.toInt ∧ f.toInt ≤ 1 := by rcases hf with rfl | rfl <;> decide
  have g1 : 0 ≤ g.toInt ∧ g.toInt ≤ 1 := by rcases hg with rfl | rfl <;> decide
  exact ⟨Int32.toInt_inj.mp (by omega), Int32.toInt_inj.mp (by omega)⟩
theorem own_insM (κ : Int32 → Int) (x e : Int32) (l : List Int32) : e ∈ own_ins κ x l → e = x ∨ e ∈ l := by
  induction l with
  | nil => intro h; simp [own_ins] at h; exact Or.inl h
  | cons a l ih =>
    intro h
    simp only [own_ins] at h
    split at h
    · rcases List.mem_cons.mp h with h | h
      · exact Or.inr (h ▸ List.mem_cons_self)
      · exact (ih h).imp id (List.mem_cons_of_mem _)
    · rcases List.mem_cons.mp h with h | h
      · exact Or.inl h
      · exact Or.inr h
theorem own_mem0 (κ : Int32 → Int) (n : Nat) : ∀ e ∈ own_E0 κ n, (e = 1 ∧ 1 < n) ∨ (e = 2 ∧ 2 < n) ∨ (e = 4 ∧ 4 < n) := by
  intro e he
  unfold own_E0 at he
  by_cases a1 : n ≤ 1
  · simp [if_pos a1] at he
  by_cases a2 : n ≤ 2
  · simp only [if_neg a1, if_pos a2] at he; exact Or.inl ⟨List.mem_singleton.mp he, by omega⟩
  by_cases a4 : n ≤ 4
  · simp only [if_neg a1, if_neg a2, if_pos a4] at he
    rcases own_insM _ _ _ _ he with h | h
    · exact Or.inr (Or.inl ⟨h, by omega⟩)
    · exact Or.inl ⟨List.mem_singleton.mp h, by omega⟩
  · simp only [if_neg a1, if_neg a2, if_neg a4] at he
    rcases own_insM _ _ _ _ he with h | h
    · exact Or.inr (Or.inr ⟨h, by omega⟩)
    rcases own_insM _ _ _ _ h with h | h
    · exact Or.inr (Or.inl ⟨h, by omega⟩)
    · exact Or.inl ⟨List.mem_singleton.mp h, by omega⟩
/-- strictly ascending, at most three -/
def own_asc (κ : Int32 → Int) : List Int32 → Prop
  | [] => True
  | [_] => True
  | [a, b] => κ a < κ b
  | [a, b, c] => κ a < κ b ∧ κ b < κ c
  | _ => False
theorem own_asc0 {κ : Int32 → Int} (h12 : κ 1 ≠ κ 2) (h14 : κ 1 ≠ κ 4) (h24 : κ 2 ≠ κ 4) (n : Nat) : own_asc κ (own_E0 κ n) ∧ (own_E0 κ n).length = (if n ≤ 1 then 0 else if n ≤ 2 then 1 else if n ≤ 4 then 2 else 3) ∧ (1 < n → (1 : Int32) ∈ own_E0 κ n) ∧ (2 < n → (2 : Int32) ∈ own_E0 κ n) ∧ (4 < n → (4 : Int32) ∈ own_E0 κ n) := by
  unfold own_E0
  by_cases a1 : n ≤ 1
  · simp only [if_pos a1]; exact ⟨trivial, rfl, fun h => absurd h (by omega), fun h => absurd h (by omega), fun h => absurd h (by omega)⟩
  by_cases a2 : n ≤ 2
  · simp only [if_neg a1, if_pos a2]; exact ⟨trivial, rfl, fun _ => by simp, fun h => absurd h (by omega), fun h => absurd h (by omega)⟩
  by_cases a4 : n ≤ 4
  · simp only [if_neg a1, if_neg a2, if_pos a4, own_ins]
    by_cases q : κ 1 < κ 2
    · simp only [if_pos q]; exact ⟨q, rfl, fun _ => by simp, fun _ => by simp, fun h => absurd h (by omega)⟩
    · simp only [if_neg q]; exact ⟨by show κ 2 < κ 1; omega, rfl, fun _ => by simp, fun _ => by simp, fun h => absurd h (by omega)⟩
  · simp only [if_neg a1, if_neg a2, if_neg a4, own_ins]
    by_cases q : κ 1 < κ 2
    · simp only [if_pos q, own_ins]
      by_cases r : κ 1 < κ 4
      · simp only [if_pos r]
        by_cases t : κ 2 < κ 4
        · simp only [if_pos t]; exact ⟨⟨q, t⟩, rfl, fun _ => by simp, fun _ => by simp, fun _ => by simp⟩
        · simp only [if_neg t]; exact ⟨⟨r, by omega⟩, rfl, fun _ => by simp, fun _ => by simp, fun _ => by simp⟩
      · simp only [if_neg r]; exact ⟨⟨by omega, q⟩, rfl, fun _ => by simp, fun _ => by simp, fun _ => by simp⟩
    · simp only [if_neg q, own_ins]
      by_cases t : κ 2 < κ 4
      · simp only [if_pos t]
        by_cases r : κ 1 < κ 4
        · simp only [if_pos r]; exact ⟨⟨by omega, r⟩, rfl, fun _ => by simp, fun _ => by simp, fun _ => by simp⟩
        · simp only [if_neg r]; exact ⟨⟨t, by omega⟩, rfl, fun _ => by simp, fun _ => by simp, fun _ => by simp⟩
      · simp only [if_neg t]; exact ⟨⟨by omega, by omega⟩, rfl, fun _ => by simp, fun _ => by simp, fun _ => by simp⟩
theorem own_asc2 {κ : Int32 → Int} (h56 : κ 5 ≠ κ 6) (n : Nat) : own_asc κ (own_E2 κ n) ∧ (own_E2 κ n).length = (if n ≤ 5 then 0 else if n ≤ 6 then 1 else 2) ∧ (5 < n → (5 : Int32) ∈ own_E2 κ n) ∧ (6 < n → (6 : Int32) ∈ own_E2 κ n) := by
  unfold own_E2
  by_cases a1 : n ≤ 5
  · simp only [if_pos a1]; exact ⟨trivial, rfl, fun h => absurd h (by omega), fun h => absurd h (by omega)⟩
  by_cases a2 : n ≤ 6
  · simp only [if_neg a1, if_pos a2]; exact ⟨trivial, rfl, fun _ => by simp, fun h => absurd h (by omega)⟩
  · simp only [if_neg a1, if_neg a2, own_ins]
    by_cases q : κ 5 < κ 6
    · simp only [if_pos q]; exact ⟨q, rfl, fun _ => by simp, fun _ => by simp⟩
    · simp only [if_neg q]; exact ⟨by show κ 6 < κ 5; omega, rfl, fun _ => by simp, fun _ => by simp⟩
theorem own_mem2 (κ : Int32 → Int) (n : Nat) : ∀ e ∈ own_E2 κ n, (e = 5 ∧ 5 < n) ∨ (e = 6 ∧ 6 < n) := by
  intro e he
  unfold own_E2 at he
  split at he
  · simp at he
  split at he
  · simp at he; subst he; exact Or.inl ⟨rfl, by omega⟩
  · simp only [own_ins] at he
    split at he <;> (simp at he; rcases he with rfl | rfl)
    · exact Or.inl ⟨rfl, by omega⟩
    · exact Or.inr ⟨rfl, by omega⟩
    · exact Or.inr ⟨rfl, by omega⟩
    · exact Or.inl ⟨rfl, by omega⟩

theorem own_s1E {ka fa i g : Int32} (ha : fa = 0 ∨ fa = 1) (hg : g = 0 ∨ g = 1) : own_s_1 ka fa i g = if own_kv ka fa < own_kv i g then 1 else 0 := by
  unfold own_s_1; simp only [own_ordI ha hg]
theorem own_s2E {ka fa kb fb i g : Int32} (ha : fa = 0 ∨ fa = 1) (hb : fb = 0 ∨ fb = 1) (hg : g = 0 ∨ g = 1) : own_s_2 ka fa kb fb i g = if own_kv kb fb < own_kv i g then 2 else if own_kv ka fa < own_kv i g then 1 else 0 := by
  unfold own_s_2; simp only [own_ordI ha hg, own_ordI hb hg]
theorem own_s3E {ka fa kb fb kc fc i g : Int32} (ha : fa = 0 ∨ fa = 1) (hb : fb = 0 ∨ fb = 1) (hc : fc = 0 ∨ fc = 1) (hg : g = 0 ∨ g = 1) : own_s_3 ka fa kb fb kc fc i g = if own_kv kb fb < own_kv i g then (if own_kv kc fc < own_kv i g then 3 else 2) else if own_kv ka fa < own_kv i g then 1 else 0 := by
  unfold own_s_3; simp only [own_ordI ha hg, own_ordI hb hg, own_ordI hc hg]
def own_B4 (Z : State) (h : Heap) (m0 : Nat) (s : Addr) (ks : ClassId) (a b c d : Int32) : Prop := Arv Z h s ks .int (4 : Int32) [(.int a), (.int b), (.int c), (.int d)] (.int (0 : Int32)) ∧ Exa Z h s "[I" ∧ m0 ≤ s
def own_Bk (Z : State) (h : Heap) (m0 : Nat) (v : Value) : List Int32 → Prop
  | [] => v = .null ∨ ∃ (s : Addr) (ks : ClassId) (t0 t1 t2 t3 : Int32), v = .ref s ∧ own_B4 Z h m0 s ks t0 t1 t2 t3
  | [a] => ∃ (s : Addr) (ks : ClassId) (t1 t2 t3 : Int32), v = .ref s ∧ own_B4 Z h m0 s ks a t1 t2 t3
  | [a, b] => ∃ (s : Addr) (ks : ClassId) (t2 t3 : Int32), v = .ref s ∧ own_B4 Z h m0 s ks a b t2 t3
  | [a, b, c] => ∃ (s : Addr) (ks : ClassId) (t3 : Int32), v = .ref s ∧ own_B4 Z h m0 s ks a b c t3
  | _ => False
theorem own_B4.keep {Z : State} {h h' : Heap} {m0 : Nat} {s : Addr} {ks : ClassId} {a b c d : Int32} {ws : List Addr} (K : Keep h h' ws) (hn : s ∉ ws) (B : own_B4 Z h m0 s ks a b c d) : own_B4 Z h' m0 s ks a b c d := ⟨B.1.keep K hn, B.2.1.keep K, B.2.2⟩
theorem own_Bk.keep {Z : State} {h h' : Heap} {m0 : Nat} {v : Value} {ws : List Addr} (K : Keep h h' ws) (hn : ∀ s, v = .ref s → s ∉ ws) : ∀ (E : List Int32), own_Bk Z h m0 v E → own_Bk Z h' m0 v E
  | [], B => B.imp id fun ⟨s, ks, t0, t1, t2, t3, e, B⟩ => ⟨s, ks, t0, t1, t2, t3, e, B.keep K (hn s e)⟩
  | [_], ⟨s, ks, t1, t2, t3, e, B⟩ => ⟨s, ks, t1, t2, t3, e, B.keep K (hn s e)⟩
  | [_, _], ⟨s, ks, t2, t3, e, B⟩ => ⟨s, ks, t2, t3, e, B.keep K (hn s e)⟩
  | [_, _, _], ⟨s, ks, t3, e, B⟩ => ⟨s, ks, t3, e, B.keep K (hn s e)⟩
  | _ :: _ :: _ :: _ :: _, B => B
theorem own_Bk.ref {Z : State} {h : Heap} {m0 : Nat} {s : Addr} : ∀ (E : List Int32), own_Bk Z h m0 (.ref s) E → ∃ (ks : ClassId) (a b c d : Int32), own_B4 Z h m0 s ks a b c d
  | [], B => B.elim (fun q => nomatch q) fun ⟨s', ks, t0, t1, t2, t3, e, B⟩ => by cases e; exact ⟨ks, _, _, _, _, B⟩
  | [_], ⟨s', ks, t1, t2, t3, e, B⟩ => by cases e; exact ⟨ks, _, _, _, _, B⟩
  | [_, _], ⟨s', ks, t2, t3, e, B⟩ => by cases e; exact ⟨ks, _, _, _, _, B⟩
  | [_, _, _], ⟨s', ks, t3, e, B⟩ => by cases e; exact ⟨ks, _, _, _, _, B⟩
  | _ :: _ :: _ :: _ :: _, B => absurd B id
def own_CV3 (v0 v1 v2 : Value) : List Value := [v0, v1, v2, .null, .null, .null, .null, .null, .null, .null, .null, .null, .null, .null, .null, .null]
def own_Key (I F IL FL PL : List Int32) (n : Nat) : Prop := ∀ i : Nat, 1 ≤ i → i < n → IL.getD i 0 = I.getD i 0 ∧ FL.getD i 0 = F.getD i 0 ∧ PL.getD i 0 = own_par.getD i 0
def own_St (Z : State) (h : Heap) (m0 : Nat) (a1 bi bf bp bc bn : Addr) (ki kf kp kc kn : ClassId) (I F : List Int32) (n : Nat) : Prop :=
  ∃ (IL FL PL : List Int32) (v0 v1 v2 : Value), (Exa Z h a1 "com/example/tidemine/tidemine/PatternTrie" ∧ Fld Z h a1 "com/example/tidemine/tidemine/PatternTrie" "size" "I" (.int (Int32.ofNat n))) ∧ (Fld Z h a1 "com/example/tidemine/tidemine/PatternTrie" "items" "[I" (.ref bi) ∧ Arv Z h bi ki .int (16 : Int32) (own_bs IL) (.int (0 : Int32))) ∧ (Fld Z h a1 "com/example/tidemine/tidemine/PatternTrie" "sameEvents" "[Z" (.ref bf) ∧ Arv Z h bf kf .boolean (16 : Int32) (own_bs FL) (.int (0 : Int32))) ∧ (Fld Z h a1 "com/example/tidemine/tidemine/PatternTrie" "parents" "[I" (.ref bp) ∧ Arv Z h bp kp .int (16 : Int32) (own_bs PL) (.int (0 : Int32))) ∧ (Fld Z h a1 "com/example/tidemine/tidemine/PatternTrie" "children" "[[I" (.ref bc) ∧ Arv Z h bc kc (.array .int) (16 : Int32) (own_CV3 v0 v1 v2) .null) ∧ (Fld Z h a1 "com/example/tidemine/tidemine/PatternTrie" "childCounts" "[I" (.ref bn) ∧ Arv Z h bn kn .int (16 : Int32) (own_bs (own_NL n)) (.int (0 : Int32))) ∧ (IL.length = 16 ∧ FL.length = 16 ∧ PL.length = 16) ∧
    own_Key I F IL FL PL n ∧ (own_Bk Z h m0 v0 (own_E0 (own_kp I F) n) ∧ own_Bk Z h m0 v1 (own_E1 n) ∧ own_Bk Z h m0 v2 (own_E2 (own_kp I F) n)) ∧ (∀ s, v0 = .ref s → v1 ≠ .ref s ∧ v2 ≠ .ref s) ∧ (∀ s, v1 = .ref s → v2 ≠ .ref s)
/-- what stands all the while: the trie's parts are unlike, the keys of one node's children too -/
def own_Cx (Z : State) (m0 : Nat) (a1 bi bf bp bc bn : Addr) (kc : ClassId) (I F : List Int32) : Prop :=
  (m0 ≤ a1 ∧ m0 ≤ bi ∧ m0 ≤ bf ∧ m0 ≤ bp ∧ m0 ≤ bc ∧ m0 ≤ bn) ∧ (a1 ≠ bi ∧ a1 ≠ bf ∧ a1 ≠ bp ∧ a1 ≠ bc ∧ a1 ≠ bn ∧ bi ≠ bf ∧ bi ≠ bp ∧ bi ≠ bc ∧ bi ≠ bn ∧ bf ≠ bp ∧ bf ≠ bc ∧ bf ≠ bn ∧ bp ≠ bc ∧ bp ≠ bn ∧ bc ≠ bn) ∧ OvrA Z kc .int "[I" ∧ (∀ i : Nat, F.getD i 0 = 0 ∨ F.getD i 0 = 1) ∧ (own_kp I F 1 ≠ own_kp I F 2 ∧ own_kp I F 1 ≠ own_kp I F 4 ∧ own_kp I F 2 ≠ own_kp I F 4 ∧ own_kp I F 5 ≠ own_kp I F 6)
theorem own_getset (l : List Int32) (i j : Nat) (x : Int32) (h : i < l.length) : (l.set i x).getD j 0 = if i = j then x else l.getD j 0 := by
  simp only [List.getD_eq_getElem?_getD, List.getElem?_set]
  by_cases q : i = j
  · subst q; simp [h]
  · simp [q]
theorem own_Keepw {h h' : Heap} {ws : List Addr} {s : Addr} (K : Keep h h' ws) : Keep h h' (ws ++ [s]) := ⟨K.1, fun x c hx hn => K.2.1 x c hx fun hm => hn (List.mem_append_left _ hm), K.2.2⟩

def Q4_F (Z : State) (a1 : Addr) (p2 : Int32) (p3 : Int32) (p4 : Int32) (bi bf bp bc bn : Addr) (ki kf kp kc kn : ClassId) (IL FL PL NL : List Int32) (CV : List Value) (vv : Value) (E : List Int32) (κ : Int32 → Int) (id_ : Int32) (m0 : Nat) (h0 : Heap) (v : Option Value) (h : Heap) (L : List Loc) : Prop := v = some (.int id_) ∧ L = [] ∧ h = h0
theorem rm4_F (l : Launch) (Z : State) (a0 : Array Value) (hw : ∀ d ∈ tables_1, d.before a0 Z = true) (ws : List Jvm.Cond) (a1 : Addr) (p2 : Int32) (p3 : Int32) (p4 : Int32) (bi bf bp bc bn : Addr) (ki kf kp kc kn : ClassId) (IL FL PL NL : List Int32) (CV : List Value) (vv : Value) (E : List Int32) (κ : Int32 → Int) (id_ : Int32) (m0 : Nat) (h0 : Heap) (E_a1 : Exa Z h0 a1 "com/example/tidemine/tidemine/PatternTrie") (F_items : Fld Z h0 a1 "com/example/tidemine/tidemine/PatternTrie" "items" "[I" (.ref bi)) (V_bi : Arv Z h0 bi ki .int (16 : Int32) (own_bs IL) (.int (0 : Int32))) (F_sameEvents : Fld Z h0 a1 "com/example/tidemine/tidemine/PatternTrie" "sameEvents" "[Z" (.ref bf)) (V_bf : Arv Z h0 bf kf .boolean (16 : Int32) (own_bs FL) (.int (0 : Int32))) (F_parents : Fld Z h0 a1 "com/example/tidemine/tidemine/PatternTrie" "parents" "[I" (.ref bp)) (V_bp : Arv Z h0 bp kp .int (16 : Int32) (own_bs PL) (.int (0 : Int32))) (F_children : Fld Z h0 a1 "com/example/tidemine/tidemine/PatternTrie" "children" "[[I" (.ref bc)) (V_bc : Arv Z h0 bc kc (.array .int) (16 : Int32) CV .null) (F_childCounts : Fld Z h0 a1 "com/example/tidemine/tidemine/PatternTrie" "childCounts" "[I" (.ref bn)) (V_bn : Arv Z h0 bn kn .int (16 : Int32) (own_bs NL) (.int (0 : Int32))) (hp : ¬ p2 < (0 : Int32) ∧ p2 < (16 : Int32)) (hcv : CV.getD p2.toNatClampNeg .null = vv) (hnc : NL.getD p2.toNatClampNeg 0 = Int32.ofNat E.length) (hbk : own_Bk Z h0 m0 vv E) (hasc : own_asc κ E) (hE : ∀ e ∈ E, (¬ e < (0 : Int32) ∧ e < (16 : Int32)) ∧ (FL.getD e.toNatClampNeg 0 = 0 ∨ FL.getD e.toNatClampNeg 0 = 1) ∧ κ e = own_kv (IL.getD e.toNatClampNeg 0) (FL.getD e.toNatClampNeg 0)) (h4 : p4 = 0 ∨ p4 = 1) (hmem : id_ ∈ E) (hid : IL.getD id_.toNatClampNeg 0 = p3 ∧ FL.getD id_.toNatClampNeg 0 = p4) :
    MetFree l mn_3 (head1 (Jvm.Cond.code mn_3 prog_23_method_3_code 8 (some .int) :: ws) ({ frames := 2, cells := 1, slots := 4, locals := 35 } : Room)) (fun a U => a = #[(.ref a1), (.int p2), (.int p3), (.int p4)] ∧ Z.Warmed39 U.vm ∧ U.heap = h0) (fun _ _ _ _ _ => True) (fun _ U o U' => ∃ v L, o = .returned v ∧ Q4_F Z a1 p2 p3 p4 bi bf bp bc bn ki kf kp kc kn IL FL PL NL CV vv E κ id_ m0 h0 v U'.heap L ∧ FrameEnd U o U' L ({ frames := 2, cells := 1, slots := 4, locals := 35 } : Room).cells ({ frames := 2, cells := 1, slots := 4, locals := 35 } : Room).slots) := by
  have hx : κ id_ = own_kv p3 p4 := by rw [(hE _ hmem).2.2, hid.1, hid.2]
  rcases E with _ | ⟨a, _ | ⟨b, _ | ⟨c, _ | ⟨d, E⟩⟩⟩⟩
  · simp at hmem
  · obtain ⟨s4, k4, t1, t2, t3, rfl, V, EX, g⟩ := hbk
    have ha := hE a (by simp)
    simp only [List.mem_cons, List.not_mem_nil, or_false] at hmem
    have hi := hmem
    · have hi2 := hi.symm; subst hi2; exact rm4_f10 l Z a0 hw ws a1 p2 p3 p4 bi bf bp bc bn ki kf kp kc kn IL FL PL NL CV s4 k4 a t1 t2 t3 (IL.getD a.toNatClampNeg 0) (FL.getD a.toNatClampNeg 0) h0 E_a1 F_items V_bi F_sameEvents V_bf F_parents V_bp F_children V_bc F_childCounts V_bn hp hcv hnc V ha.1 rfl rfl (by rw [own_s1E ha.2.1 h4, ← ha.2.2, ← hx]; rw [if_neg (by omega)]) hid.1 hid.2
  · obtain ⟨s4, k4, t2, t3, rfl, V, EX, g⟩ := hbk
    have ha := hE a (by simp)
    have hb := hE b (by simp)
    simp only [List.mem_cons, List.not_mem_nil, or_false] at hmem
    have hs : κ a < κ b := hasc
    rcases hmem with hi | hi
    · have hi2 := hi.symm; subst hi2; exact rm4_f20 l Z a0 hw ws a1 p2 p3 p4 bi bf bp bc bn ki kf kp kc kn IL FL PL NL CV s4 k4 a b t2 t3 (IL.getD a.toNatClampNeg 0) (FL.getD a.toNatClampNeg 0) (IL.getD b.toNatClampNeg 0) (FL.getD b.toNatClampNeg 0) h0 E_a1 F_items V_bi F_sameEvents V_bf F_parents V_bp F_children V_bc F_childCounts V_bn hp hcv hnc V ha.1 rfl rfl hb.1 rfl rfl (by rw [own_s2E ha.2.1 hb.2.1 h4, ← ha.2.2, ← hb.2.2, ← hx]; rw [if_neg (by omega), if_neg (by omega)]) hid.1 hid.2
    · have hi2 := hi.symm; subst hi2; exact rm4_f21 l Z a0 hw ws a1 p2 p3 p4 bi bf bp bc bn ki kf kp kc kn IL FL PL NL CV s4 k4 a b t2 t3 (IL.getD a.toNatClampNeg 0) (FL.getD a.toNatClampNeg 0) (IL.getD b.toNatClampNeg 0) (FL.getD b.toNatClampNeg 0) h0 E_a1 F_items V_bi F_sameEvents V_bf F_parents V_bp F_children V_bc F_childCounts V_bn hp hcv hnc V ha.1 rfl rfl hb.1 rfl rfl (by rw [own_s2E ha.2.1 hb.2.1 h4, ← ha.2.2, ← hb.2.2, ← hx]; rw [if_neg (by omega), if_pos (by omega)]) hid.1 hid.2
  · obtain ⟨s4, k4, t3, rfl, V, EX, g⟩ := hbk
    have ha := hE a (by simp)
    have hb := hE b (by simp)
    have hc := hE c (by simp)
    simp only [List.mem_cons, List.not_mem_nil, or_false] at hmem
    have hs : κ a < κ b ∧ κ b < κ c := hasc
    rcases hmem with hi | hi | hi
    · have hi2 := hi.symm; subst hi2; exact rm4_f30 l Z a0 hw ws a1 p2 p3 p4 bi bf bp bc bn ki kf kp kc kn IL FL PL NL CV s4 k4 a b c t3 (IL.getD a.toNatClampNeg 0) (FL.getD a.toNatClampNeg 0) (IL.getD b.toNatClampNeg 0) (FL.getD b.toNatClampNeg 0) (IL.getD c.toNatClampNeg 0) (FL.getD c.toNatClampNeg 0) h0 E_a1 F_items V_bi F_sameEvents V_bf F_parents V_bp F_children V_bc F_childCounts V_bn hp hcv hnc V ha.1 rfl rfl hb.1 rfl rfl hc.1 rfl rfl (by rw [own_s3E ha.2.1 hb.2.1 hc.2.1 h4, ← ha.2.2, ← hb.2.2, ← hc.2.2, ← hx]; rw [if_neg (by omega), if_neg (by omega)]) hid.1 hid.2
    · have hi2 := hi.symm; subst hi2; exact rm4_f31 l Z a0 hw ws a1 p2 p3 p4 bi bf bp bc bn ki kf kp kc kn IL FL PL NL CV s4 k4 a b c t3 (IL.getD a.toNatClampNeg 0) (FL.getD a.toNatClampNeg 0) (IL.getD b.toNatClampNeg 0) (FL.getD b.toNatClampNeg 0) (IL.getD c.toNatClampNeg 0) (FL.getD c.toNatClampNeg 0) h0 E_a1 F_items V_bi F_sameEvents V_bf F_parents V_bp F_children V_bc F_childCounts V_bn hp hcv hnc V ha.1 rfl rfl hb.1 rfl rfl hc.1 rfl rfl (by rw [own_s3E ha.2.1 hb.2.1 hc.2.1 h4, ← ha.2.2, ← hb.2.2, ← hc.2.2, ← hx]; rw [if_neg (by omega), if_pos (by omega)]) hid.1 hid.2
    · have hi2 := hi.symm; subst hi2; exact rm4_f32 l Z a0 hw ws a1 p2 p3 p4 bi bf bp bc bn ki kf kp kc kn IL FL PL NL CV s4 k4 a b c t3 (IL.getD a.toNatClampNeg 0) (FL.getD a.toNatClampNeg 0) (IL.getD b.toNatClampNeg 0) (FL.getD b.toNatClampNeg 0) (IL.getD c.toNatClampNeg 0) (FL.getD c.toNatClampNeg 0) h0 E_a1 F_items V_bi F_sameEvents V_bf F_parents V_bp F_children V_bc F_childCounts V_bn hp hcv hnc V ha.1 rfl rfl hb.1 rfl rfl hc.1 rfl rfl (by rw [own_s3E ha.2.1 hb.2.1 hc.2.1 h4, ← ha.2.2, ← hb.2.2, ← hc.2.2, ← hx]; rw [if_pos (by omega), if_neg (by omega)]) hid.1 hid.2
  · exact absurd hasc id
def Q4_A (Z : State) (a1 : Addr) (p2 : Int32) (p3 : Int32) (p4 : Int32) (bi bf bp bc bn : Addr) (ki kf kp kc kn : ClassId) (IL FL PL NL : List Int32) (CV : List Value) (vv : Value) (E : List Int32) (κ : Int32 → Int) (sz : Int32) (h0 : Heap) (n0 : Nat) (v : Option Value) (h : Heap) (L : List Loc) : Prop := ∃ s4 : Addr, v = some (.int sz) ∧ Fr n0 L ∧ Keep h0 h [a1, bi, bf, bp, bc, bn, s4] ∧ Exa Z h a1 "com/example/tidemine/tidemine/PatternTrie" ∧ Fld Z h a1 "com/example/tidemine/tidemine/PatternTrie" "size" "I" (.int (sz + (1 : Int32))) ∧ Fld Z h a1 "com/example/tidemine/tidemine/PatternTrie" "items" "[I" (.ref bi) ∧ Arv Z h bi ki .int (16 : Int32) (own_bs (IL.set sz.toNatClampNeg p3)) (.int (0 : Int32)) ∧ Fld Z h a1 "com/example/tidemine/tidemine/PatternTrie" "sameEvents" "[Z" (.ref bf) ∧ Arv Z h bf kf .boolean (16 : Int32) (own_bs (FL.set sz.toNatClampNeg p4)) (.int (0 : Int32)) ∧ Fld Z h a1 "com/example/tidemine/tidemine/PatternTrie" "parents" "[I" (.ref bp) ∧ Arv Z h bp kp .int (16 : Int32) (own_bs (PL.set sz.toNatClampNeg p2)) (.int (0 : Int32)) ∧ Fld Z h a1 "com/example/tidemine/tidemine/PatternTrie" "children" "[[I" (.ref bc) ∧ Arv Z h bc kc (.array .int) (16 : Int32) (CV.set p2.toNatClampNeg (.ref s4)) .null ∧ Fld Z h a1 "com/example/tidemine/tidemine/PatternTrie" "childCounts" "[I" (.ref bn) ∧ Arv Z h bn kn .int (16 : Int32) (own_bs (NL.set p2.toNatClampNeg (Int32.ofNat (E.length + 1)))) (.int (0 : Int32)) ∧ own_Bk Z h n0 (.ref s4) (own_ins κ sz E) ∧ (vv = .ref s4 ∨ h0.size ≤ s4)
theorem rm4_A (l : Launch) (Z : State) (a0 : Array Value) (hw : ∀ d ∈ tables_1, d.before a0 Z = true) (ws : List Jvm.Cond) (a1 : Addr) (p2 : Int32) (p3 : Int32) (p4 : Int32) (bi bf bp bc bn : Addr) (ki kf kp kc kn : ClassId) (IL FL PL NL : List Int32) (CV : List Value) (vv : Value) (E : List Int32) (κ : Int32 → Int) (sz : Int32) (h0 : Heap) (n0 : Nat) (Z0 : n0 ≤ h0.size) (E_a1 : Exa Z h0 a1 "com/example/tidemine/tidemine/PatternTrie") (F_items : Fld Z h0 a1 "com/example/tidemine/tidemine/PatternTrie" "items" "[I" (.ref bi)) (V_bi : Arv Z h0 bi ki .int (16 : Int32) (own_bs IL) (.int (0 : Int32))) (F_sameEvents : Fld Z h0 a1 "com/example/tidemine/tidemine/PatternTrie" "sameEvents" "[Z" (.ref bf)) (V_bf : Arv Z h0 bf kf .boolean (16 : Int32) (own_bs FL) (.int (0 : Int32))) (F_parents : Fld Z h0 a1 "com/example/tidemine/tidemine/PatternTrie" "parents" "[I" (.ref bp)) (V_bp : Arv Z h0 bp kp .int (16 : Int32) (own_bs PL) (.int (0 : Int32))) (F_children : Fld Z h0 a1 "com/example/tidemine/tidemine/PatternTrie" "children" "[[I" (.ref bc)) (V_bc : Arv Z h0 bc kc (.array .int) (16 : Int32) CV .null) (F_childCounts : Fld Z h0 a1 "com/example/tidemine/tidemine/PatternTrie" "childCounts" "[I" (.ref bn)) (V_bn : Arv Z h0 bn kn .int (16 : Int32) (own_bs NL) (.int (0 : Int32))) (hp : ¬ p2 < (0 : Int32) ∧ p2 < (16 : Int32)) (hcv : CV.getD p2.toNatClampNeg .null = vv) (hnc : NL.getD p2.toNatClampNeg 0 = Int32.ofNat E.length) (hbk : own_Bk Z h0 n0 vv E) (hasc : own_asc κ E) (hE : ∀ e ∈ E, (¬ e < (0 : Int32) ∧ e < (16 : Int32)) ∧ (FL.getD e.toNatClampNeg 0 = 0 ∨ FL.getD e.toNatClampNeg 0 = 1) ∧ κ e = own_kv (IL.getD e.toNatClampNeg 0) (FL.getD e.toNatClampNeg 0)) (h4 : p4 = 0 ∨ p4 = 1) (hIL : IL.length = 16) (hFL : FL.length = 16) (hPL : PL.length = 16) (hNL : NL.length = 16) (hCV : CV.length = 16) (hz : ¬ sz < (0 : Int32) ∧ sz < (16 : Int32)) (F_size : Fld Z h0 a1 "com/example/tidemine/tidemine/PatternTrie" "size" "I" (.int sz)) (O_bc : OvrA Z kc .int "[I") (g_a1 : n0 ≤ a1) (g_bi : n0 ≤ bi) (g_bf : n0 ≤ bf) (g_bp : n0 ≤ bp) (g_bc : n0 ≤ bc) (g_bn : n0 ≤ bn) (ne_a1_bi : a1 ≠ bi) (ne_a1_bf : a1 ≠ bf) (ne_a1_bp : a1 ≠ bp) (ne_a1_bc : a1 ≠ bc) (ne_a1_bn : a1 ≠ bn) (ne_bi_bf : bi ≠ bf) (ne_bi_bp : bi ≠ bp) (ne_bi_bc : bi ≠ bc) (ne_bi_bn : bi ≠ bn) (ne_bf_bp : bf ≠ bp) (ne_bf_bc : bf ≠ bc) (ne_bf_bn : bf ≠ bn) (ne_bp_bc : bp ≠ bc) (ne_bp_bn : bp ≠ bn) (ne_bc_bn : bc ≠ bn) (hx : κ sz = own_kv p3 p4) (hnew : ∀ e ∈ E, κ e ≠ κ sz) (hwi : ∃ (nn : Nat) (a0 : Array Value), (Cond.instantiable "com/example/tidemine/tidemine/PatternTrie" nn).before a0 Z = true) (hlen : E.length ≤ 2) :
    MetFree l mn_3 (head1 (Jvm.Cond.code mn_3 prog_23_method_3_code 8 (some .int) :: ws) ({ frames := 2, cells := 1, slots := 4, locals := 35 } : Room)) (fun a U => a = #[(.ref a1), (.int p2), (.int p3), (.int p4)] ∧ Z.Warmed39 U.vm ∧ U.heap = h0) (fun _ _ _ _ _ => True) (fun _ U o U' => ∃ v L, o = .returned v ∧ Q4_A Z a1 p2 p3 p4 bi bf bp bc bn ki kf kp kc kn IL FL PL NL CV vv E κ sz h0 n0 v U'.heap L ∧ FrameEnd U o U' L ({ frames := 2, cells := 1, slots := 4, locals := 35 } : Room).cells ({ frames := 2, cells := 1, slots := 4, locals := 35 } : Room).slots) := by
  obtain ⟨nn, a0', hwi'⟩ := hwi
  have h4' : nar .boolean p4 = p4 := by rcases h4 with rfl | rfl <;> rfl
  rcases E with _ | ⟨a, _ | ⟨b, _ | ⟨c, E⟩⟩⟩
  · rcases hbk with rfl | ⟨s4, k4, t0, t1, t2, t3, rfl, V, EX, g⟩
    · refine MetFree.mono (rm4_az l Z a0 hw ws a1 p2 p3 p4 bi bf bp bc bn ki kf kp kc kn IL FL PL NL CV   sz h0 n0 Z0 E_a1 F_items V_bi F_sameEvents V_bf F_parents V_bp F_children V_bc F_childCounts V_bn hp hcv hnc   rfl hIL hFL hPL hNL hCV hz F_size O_bc h4' g_a1 g_bi g_bf g_bp g_bc g_bn ne_a1_bi ne_a1_bf ne_a1_bp ne_a1_bc ne_a1_bn ne_bi_bf ne_bi_bp ne_bi_bc ne_bi_bn ne_bf_bp ne_bf_bc ne_bf_bn ne_bp_bc ne_bp_bn ne_bc_bn  ) (fun _ _ q => q) (fun _ _ _ _ _ q => q) ?_
      rintro a_ s_ o_ s_' hP ⟨v, L, ho, ⟨s4, k4, hv, N, K, A1, A2, A3, A4, A5, A6, A7, A8, A9, A10, A11, A12, VV, EE, hfr⟩, hF⟩
      refine ⟨v, L, ho, ⟨s4, hv, N, own_Keepw (s := s4) K, A1, A2, A3, A4, A5, A6, A7, A8, A9, A10, A11, A12, ?_, Or.inr hfr⟩, hF⟩
      exact ⟨s4, k4, (0 : Int32), (0 : Int32), (0 : Int32), rfl, VV, EE, Nat.le_trans Z0 hfr⟩
    · refine MetFree.mono (rm4_a00 l Z a0 hw ws a1 p2 p3 p4 bi bf bp bc bn ki kf kp kc kn IL FL PL NL CV s4 k4 t0 t1 t2 t3  sz h0 n0 Z0 E_a1 F_items V_bi F_sameEvents V_bf F_parents V_bp F_children V_bc F_childCounts V_bn hp hcv hnc V  rfl hIL hFL hPL hNL hCV hz F_size O_bc h4' g_a1 g_bi g_bf g_bp g_bc g_bn g ne_a1_bi ne_a1_bf ne_a1_bp ne_a1_bc ne_a1_bn (E_a1.neArv V hwi') ne_bi_bf ne_bi_bp ne_bi_bc ne_bi_bn (arv_ne V_bi V (Or.inl (by decide))) ne_bf_bp ne_bf_bc ne_bf_bn (arv_ne V_bf V (Or.inl (by decide))) ne_bp_bc ne_bp_bn (arv_ne V_bp V (Or.inl (by decide))) ne_bc_bn (arv_ne V_bc V (Or.inl (by decide))) (arv_ne V_bn V (Or.inl (by decide))) EX ) (fun _ _ q => q) (fun _ _ _ _ _ q => q) ?_
      rintro a_ s_ o_ s_' hP ⟨v, L, ho, ⟨hv, N, K, A1, A2, A3, A4, A5, A6, A7, A8, A9, A10, A11, A12, VV, EE⟩, hF⟩
      refine ⟨v, L, ho, ⟨s4, hv, N, K, A1, A2, A3, A4, A5, A6, A7, A8, A9, A10, A11, A12, ?_, Or.inl rfl⟩, hF⟩
      exact ⟨s4, k4, t1, t2, t3, rfl, VV, EE, g⟩
  · obtain ⟨s4, k4, t1, t2, t3, rfl, V, EX, g⟩ := hbk
    have ha := hE a (by simp)
    have na := hnew a (by simp)
    by_cases q : κ a < κ sz
    · refine MetFree.mono (rm4_a11 l Z a0 hw ws a1 p2 p3 p4 bi bf bp bc bn ki kf kp kc kn IL FL PL NL CV s4 k4 a t1 t2 t3 (IL.getD a.toNatClampNeg 0) (FL.getD a.toNatClampNeg 0) sz h0 n0 Z0 E_a1 F_items V_bi F_sameEvents V_bf F_parents V_bp F_children V_bc F_childCounts V_bn hp hcv hnc V ha.1 rfl rfl (by rw [own_s1E ha.2.1 h4, ← ha.2.2, ← hx]; rw [if_pos (by omega)]) hIL hFL hPL hNL hCV hz F_size O_bc h4' g_a1 g_bi g_bf g_bp g_bc g_bn g ne_a1_bi ne_a1_bf ne_a1_bp ne_a1_bc ne_a1_bn (E_a1.neArv V hwi') ne_bi_bf ne_bi_bp ne_bi_bc ne_bi_bn (arv_ne V_bi V (Or.inl (by decide))) ne_bf_bp ne_bf_bc ne_bf_bn (arv_ne V_bf V (Or.inl (by decide))) ne_bp_bc ne_bp_bn (arv_ne V_bp V (Or.inl (by decide))) ne_bc_bn (arv_ne V_bc V (Or.inl (by decide))) (arv_ne V_bn V (Or.inl (by decide))) EX ) (fun _ _ q => q) (fun _ _ _ _ _ q => q) ?_
      rintro a_ s_ o_ s_' hP ⟨v, L, ho, ⟨hv, N, K, A1, A2, A3, A4, A5, A6, A7, A8, A9, A10, A11, A12, VV, EE⟩, hF⟩
      refine ⟨v, L, ho, ⟨s4, hv, N, K, A1, A2, A3, A4, A5, A6, A7, A8, A9, A10, A11, A12, ?_, Or.inl rfl⟩, hF⟩
      simp only [own_ins, if_pos (show κ a < κ sz by omega)]
      exact ⟨s4, k4, t2, t3, rfl, VV, EE, g⟩
    · refine MetFree.mono (rm4_a10 l Z a0 hw ws a1 p2 p3 p4 bi bf bp bc bn ki kf kp kc kn IL FL PL NL CV s4 k4 a t1 t2 t3 (IL.getD a.toNatClampNeg 0) (FL.getD a.toNatClampNeg 0) sz h0 n0 Z0 E_a1 F_items V_bi F_sameEvents V_bf F_parents V_bp F_children V_bc F_childCounts V_bn hp hcv hnc V ha.1 rfl rfl (by rw [own_s1E ha.2.1 h4, ← ha.2.2, ← hx]; rw [if_neg (by omega)]) hIL hFL hPL hNL hCV hz F_size O_bc h4' g_a1 g_bi g_bf g_bp g_bc g_bn g ne_a1_bi ne_a1_bf ne_a1_bp ne_a1_bc ne_a1_bn (E_a1.neArv V hwi') ne_bi_bf ne_bi_bp ne_bi_bc ne_bi_bn (arv_ne V_bi V (Or.inl (by decide))) ne_bf_bp ne_bf_bc ne_bf_bn (arv_ne V_bf V (Or.inl (by decide))) ne_bp_bc ne_bp_bn (arv_ne V_bp V (Or.inl (by decide))) ne_bc_bn (arv_ne V_bc V (Or.inl (by decide))) (arv_ne V_bn V (Or.inl (by decide))) EX (fun q => hnew a (by simp) (by rw [ha.2.2, hx, q.1, q.2]))) (fun _ _ q => q) (fun _ _ _ _ _ q => q) ?_
      rintro a_ s_ o_ s_' hP ⟨v, L, ho, ⟨hv, N, K, A1, A2, A3, A4, A5, A6, A7, A8, A9, A10, A11, A12, VV, EE⟩, hF⟩
      refine ⟨v, L, ho, ⟨s4, hv, N, K, A1, A2, A3, A4, A5, A6, A7, A8, A9, A10, A11, A12, ?_, Or.inl rfl⟩, hF⟩
      simp only [own_ins, if_neg (show ¬ κ a < κ sz by omega)]
      exact ⟨s4, k4, t2, t3, rfl, VV, EE, g⟩
  · obtain ⟨s4, k4, t2, t3, rfl, V, EX, g⟩ := hbk
    have ha := hE a (by simp)
    have na := hnew a (by simp)
    have hb := hE b (by simp)
    have nb := hnew b (by simp)
    have hs : κ a < κ b := hasc
    by_cases q : κ b < κ sz
    · refine MetFree.mono (rm4_a22 l Z a0 hw ws a1 p2 p3 p4 bi bf bp bc bn ki kf kp kc kn IL FL PL NL CV s4 k4 a b t2 t3 (IL.getD a.toNatClampNeg 0) (FL.getD a.toNatClampNeg 0) (IL.getD b.toNatClampNeg 0) (FL.getD b.toNatClampNeg 0) sz h0 n0 Z0 E_a1 F_items V_bi F_sameEvents V_bf F_parents V_bp F_children V_bc F_childCounts V_bn hp hcv hnc V ha.1 rfl rfl hb.1 rfl rfl (by rw [own_s2E ha.2.1 hb.2.1 h4, ← ha.2.2, ← hb.2.2, ← hx]; rw [if_pos (by omega)]) hIL hFL hPL hNL hCV hz F_size O_bc h4' g_a1 g_bi g_bf g_bp g_bc g_bn g ne_a1_bi ne_a1_bf ne_a1_bp ne_a1_bc ne_a1_bn (E_a1.neArv V hwi') ne_bi_bf ne_bi_bp ne_bi_bc ne_bi_bn (arv_ne V_bi V (Or.inl (by decide))) ne_bf_bp ne_bf_bc ne_bf_bn (arv_ne V_bf V (Or.inl (by decide))) ne_bp_bc ne_bp_bn (arv_ne V_bp V (Or.inl (by decide))) ne_bc_bn (arv_ne V_bc V (Or.inl (by decide))) (arv_ne V_bn V (Or.inl (by decide))) EX ) (fun _ _ q => q) (fun _ _ _ _ _ q => q) ?_
      rintro a_ s_ o_ s_' hP ⟨v, L, ho, ⟨hv, N, K, A1, A2, A3, A4, A5, A6, A7, A8, A9, A10, A11, A12, VV, EE⟩, hF⟩
      refine ⟨v, L, ho, ⟨s4, hv, N, K, A1, A2, A3, A4, A5, A6, A7, A8, A9, A10, A11, A12, ?_, Or.inl rfl⟩, hF⟩
      simp only [own_ins, if_pos (show κ a < κ sz by omega), if_pos (show κ b < κ sz by omega)]
      exact ⟨s4, k4, t3, rfl, VV, EE, g⟩
    by_cases r : κ a < κ sz
    · refine MetFree.mono (rm4_a21 l Z a0 hw ws a1 p2 p3 p4 bi bf bp bc bn ki kf kp kc kn IL FL PL NL CV s4 k4 a b t2 t3 (IL.getD a.toNatClampNeg 0) (FL.getD a.toNatClampNeg 0) (IL.getD b.toNatClampNeg 0) (FL.getD b.toNatClampNeg 0) sz h0 n0 Z0 E_a1 F_items V_bi F_sameEvents V_bf F_parents V_bp F_children V_bc F_childCounts V_bn hp hcv hnc V ha.1 rfl rfl hb.1 rfl rfl (by rw [own_s2E ha.2.1 hb.2.1 h4, ← ha.2.2, ← hb.2.2, ← hx]; rw [if_neg (by omega), if_pos (by omega)]) hIL hFL hPL hNL hCV hz F_size O_bc h4' g_a1 g_bi g_bf g_bp g_bc g_bn g ne_a1_bi ne_a1_bf ne_a1_bp ne_a1_bc ne_a1_bn (E_a1.neArv V hwi') ne_bi_bf ne_bi_bp ne_bi_bc ne_bi_bn (arv_ne V_bi V (Or.inl (by decide))) ne_bf_bp ne_bf_bc ne_bf_bn (arv_ne V_bf V (Or.inl (by decide))) ne_bp_bc ne_bp_bn (arv_ne V_bp V (Or.inl (by decide))) ne_bc_bn (arv_ne V_bc V (Or.inl (by decide))) (arv_ne V_bn V (Or.inl (by decide))) EX (fun q => hnew b (by simp) (by rw [hb.2.2, hx, q.1, q.2]))) (fun _ _ q => q) (fun _ _ _ _ _ q => q) ?_
      rintro a_ s_ o_ s_' hP ⟨v, L, ho, ⟨hv, N, K, A1, A2, A3, A4, A5, A6, A7, A8, A9, A10, A11, A12, VV, EE⟩, hF⟩
      refine ⟨v, L, ho, ⟨s4, hv, N, K, A1, A2, A3, A4, A5, A6, A7, A8, A9, A10, A11, A12, ?_, Or.inl rfl⟩, hF⟩
      simp only [own_ins, if_pos (show κ a < κ sz by omega), if_neg (show ¬ κ b < κ sz by omega)]
      exact ⟨s4, k4, t3, rfl, VV, EE, g⟩
    · refine MetFree.mono (rm4_a20 l Z a0 hw ws a1 p2 p3 p4 bi bf bp bc bn ki kf kp kc kn IL FL PL NL CV s4 k4 a b t2 t3 (IL.getD a.toNatClampNeg 0) (FL.getD a.toNatClampNeg 0) (IL.getD b.toNatClampNeg 0) (FL.getD b.toNatClampNeg 0) sz h0 n0 Z0 E_a1 F_items V_bi F_sameEvents V_bf F_parents V_bp F_children V_bc F_childCounts V_bn hp hcv hnc V ha.1 rfl rfl hb.1 rfl rfl (by rw [own_s2E ha.2.1 hb.2.1 h4, ← ha.2.2, ← hb.2.2, ← hx]; rw [if_neg (by omega), if_neg (by omega)]) hIL hFL hPL hNL hCV hz F_size O_bc h4' g_a1 g_bi g_bf g_bp g_bc g_bn g ne_a1_bi ne_a1_bf ne_a1_bp ne_a1_bc ne_a1_bn (E_a1.neArv V hwi') ne_bi_bf ne_bi_bp ne_bi_bc ne_bi_bn (arv_ne V_bi V (Or.inl (by decide))) ne_bf_bp ne_bf_bc ne_bf_bn (arv_ne V_bf V (Or.inl (by decide))) ne_bp_bc ne_bp_bn (arv_ne V_bp V (Or.inl (by decide))) ne_bc_bn (arv_ne V_bc V (Or.inl (by decide))) (arv_ne V_bn V (Or.inl (by decide))) EX (fun q => hnew a (by simp) (by rw [ha.2.2, hx, q.1, q.2]))) (fun _ _ q => q) (fun _ _ _ _ _ q => q) ?_
      rintro a_ s_ o_ s_' hP ⟨v, L, ho, ⟨hv, N, K, A1, A2, A3, A4, A5, A6, A7, A8, A9, A10, A11, A12, VV, EE⟩, hF⟩
      refine ⟨v, L, ho, ⟨s4, hv, N, K, A1, A2, A3, A4, A5, A6, A7, A8, A9, A10, A11, A12, ?_, Or.inl rfl⟩, hF⟩
      simp only [own_ins, if_neg (show ¬ κ a < κ sz by omega)]
      exact ⟨s4, k4, t3, rfl, VV, EE, g⟩
  · exact absurd hlen (by simp)
theorem own_nl (n : Nat) : (own_NL n).getD 0 0 = Int32.ofNat (if n ≤ 1 then 0 else if n ≤ 2 then 1 else if n ≤ 4 then 2 else 3) ∧ (own_NL n).getD 1 0 = Int32.ofNat (if n ≤ 3 then 0 else 1) ∧ (own_NL n).getD 2 0 = Int32.ofNat (if n ≤ 5 then 0 else if n ≤ 6 then 1 else 2) := by
  refine ⟨?_, ?_, ?_⟩
  · show (if n ≤ 1 then (0 : Int32) else if n ≤ 2 then 1 else if n ≤ 4 then 2 else 3) = _
    repeat' split
    all_goals rfl
  · show (if n ≤ 3 then (0 : Int32) else 1) = _
    repeat' split
    all_goals rfl
  · show (if n ≤ 5 then (0 : Int32) else if n ≤ 6 then 1 else 2) = _
    repeat' split
    all_goals rfl
theorem own_asc1 (κ : Int32 → Int) (n : Nat) : own_asc κ (own_E1 n) ∧ (own_E1 n).length = (if n ≤ 3 then 0 else 1) ∧ (3 < n → (3 : Int32) ∈ own_E1 n) := by
  unfold own_E1
  by_cases a1 : n ≤ 3
  · simp only [if_pos a1]; exact ⟨trivial, rfl, fun h => absurd h (by omega)⟩
  · simp only [if_neg a1]; exact ⟨trivial, rfl, fun _ => by simp⟩
theorem own_mem1 (n : Nat) : ∀ e ∈ own_E1 n, e = 3 ∧ 3 < n := by
  intro e he
  unfold own_E1 at he
  by_cases a1 : n ≤ 3
  · simp [if_pos a1] at he
  · simp only [if_neg a1] at he; exact ⟨List.mem_singleton.mp he, by omega⟩
theorem own_hEj {I F IL FL PL : List Int32} {n : Nat} (hkey : own_Key I F IL FL PL n) (hfl : ∀ i : Nat, F.getD i 0 = 0 ∨ F.getD i 0 = 1) (e : Int32) (j : Nat) (he : e.toNatClampNeg = j) (hb : ¬ e < (0 : Int32) ∧ e < (16 : Int32)) (h1 : 1 ≤ j) (h2 : j < n) : (¬ e < (0 : Int32) ∧ e < (16 : Int32)) ∧ (FL.getD e.toNatClampNeg 0 = 0 ∨ FL.getD e.toNatClampNeg 0 = 1) ∧ own_kp I F e = own_kv (IL.getD e.toNatClampNeg 0) (FL.getD e.toNatClampNeg 0) := by
  have q := hkey j h1 h2
  unfold own_kp own_kv
  rw [he, q.1, q.2.1]
  exact ⟨hb, hfl j, rfl⟩
theorem own_hE0 {I F IL FL PL : List Int32} {n : Nat} (hkey : own_Key I F IL FL PL n) (hfl : ∀ i : Nat, F.getD i 0 = 0 ∨ F.getD i 0 = 1) : ∀ e ∈ own_E0 (own_kp I F) n, (¬ e < (0 : Int32) ∧ e < (16 : Int32)) ∧ (FL.getD e.toNatClampNeg 0 = 0 ∨ FL.getD e.toNatClampNeg 0 = 1) ∧ own_kp I F e = own_kv (IL.getD e.toNatClampNeg 0) (FL.getD e.toNatClampNeg 0) := fun e he => by
  rcases own_mem0 _ _ e he with ⟨rfl, h⟩ | ⟨rfl, h⟩ | ⟨rfl, h⟩
  · exact own_hEj hkey hfl _ 1 rfl (by decide) (by decide) h
  · exact own_hEj hkey hfl _ 2 rfl (by decide) (by decide) h
  · exact own_hEj hkey hfl _ 4 rfl (by decide) (by decide) h
theorem own_hE1 {I F IL FL PL : List Int32} {n : Nat} (hkey : own_Key I F IL FL PL n) (hfl : ∀ i : Nat, F.getD i 0 = 0 ∨ F.getD i 0 = 1) : ∀ e ∈ own_E1 n, (¬ e < (0 : Int32) ∧ e < (16 : Int32)) ∧ (FL.getD e.toNatClampNeg 0 = 0 ∨ FL.getD e.toNatClampNeg 0 = 1) ∧ own_kp I F e = own_kv (IL.getD e.toNatClampNeg 0) (FL.getD e.toNatClampNeg 0) := fun e he => by
  obtain ⟨rfl, h⟩ := own_mem1 _ e he
  exact own_hEj hkey hfl _ 3 rfl (by decide) (by decide) h
theorem own_hE2 {I F IL FL PL : List Int32} {n : Nat} (hkey : own_Key I F IL FL PL n) (hfl : ∀ i : Nat, F.getD i 0 = 0 ∨ F.getD i 0 = 1) : ∀ e ∈ own_E2 (own_kp I F) n, (¬ e < (0 : Int32) ∧ e < (16 : Int32)) ∧ (FL.getD e.toNatClampNeg 0 = 0 ∨ FL.getD e.toNatClampNeg 0 = 1) ∧ own_kp I F e = own_kv (IL.getD e.toNatClampNeg 0) (FL.getD e.toNatClampNeg 0) := fun e he => by
  rcases own_mem2 _ _ e he with ⟨rfl, h⟩ | ⟨rfl, h⟩
  · exact own_hEj hkey hfl _ 5 rfl (by decide) (by decide) h
  · exact own_hEj hkey hfl _ 6 rfl (by decide) (by decide) h
theorem own_hkeyS {I F IL FL PL : List Int32} {i : Nat} {p3 p4 p : Int32} (hkey : own_Key I F IL FL PL i) (hIL : IL.length = 16) (hFL : FL.length = 16) (hPL : PL.length = 16) (hi : i < 16) (h3 : I.getD i 0 = p3) (h4 : F.getD i 0 = p4) (hp : own_par.getD i 0 = p) : own_Key I F (IL.set i p3) (FL.set i p4) (PL.set i p) (max i (i + 1)) := by
  intro j h1 h2
  rw [own_getset _ _ _ _ (by omega), own_getset _ _ _ _ (by omega), own_getset _ _ _ _ (by omega)]
  by_cases q : i = j
  · subst q
    simp only [if_true]
    exact ⟨h3.symm, h4.symm, hp.symm⟩
  · simp only [if_neg q]
    exact hkey j h1 (by omega)
theorem own_notin {Z : State} {h : Heap} {m0 : Nat} {a1 bi bf bp bc bn s4 : Addr} {ki kf kp kc kn : ClassId} {w1 w2 w3 w4 w5 : List Value} {d4 : Value} {C : String} {nn : Nat} {a0 : Array Value} (E1 : Exa Z h a1 C) (wi : (Cond.instantiable C nn).before a0 Z = true) (V1 : Arv Z h bi ki .int (16 : Int32) w1 (.int (0 : Int32))) (V2 : Arv Z h bf kf .boolean (16 : Int32) w2 (.int (0 : Int32))) (V3 : Arv Z h bp kp .int (16 : Int32) w3 (.int (0 : Int32))) (V4 : Arv Z h bc kc (.array .int) (16 : Int32) w4 d4) (V5 : Arv Z h bn kn .int (16 : Int32) w5 (.int (0 : Int32))) {v : Value} {E : List Int32} (B : own_Bk Z h m0 v E) (hd : ∀ s, v = .ref s → s ≠ s4) : ∀ s, v = .ref s → s ∉ [a1, bi, bf, bp, bc, bn, s4] := by
  intro s e hm
  have hd' := hd s e
  subst e
  obtain ⟨ks, a, b, c, d, B4⟩ := own_Bk.ref _ B
  have V := B4.1
  simp only [List.mem_cons, List.not_mem_nil, or_false] at hm
  rcases hm with q | q | q | q | q | q | q
  · exact E1.neArv V wi q.symm
  · exact arv_ne V1 V (Or.inl (by decide)) q.symm
  · exact arv_ne V2 V (Or.inl (by decide)) q.symm
  · exact arv_ne V3 V (Or.inl (by decide)) q.symm
  · exact arv_ne V4 V (Or.inl (by decide)) q.symm
  · exact arv_ne V5 V (Or.inl (by decide)) q.symm
  · exact hd' q
theorem own_apart {Z : State} {h : Heap} {m0 : Nat} {v w : Value} {s4 : Addr} {E : List Int32} (B : own_Bk Z h m0 w E) (hor : v = .ref s4 ∨ h.size ≤ s4) (hd : v = .ref s4 → w ≠ .ref s4) : ∀ s, w = .ref s → s ≠ s4 := by
  intro s e q
  subst q
  rcases hor with h1 | h1
  · exact hd h1 e
  · subst e
    obtain ⟨ks, a, b, c, d, B4⟩ := own_Bk.ref _ B
    exact absurd B4.1.lt (Nat.not_lt.mpr h1)

def Q4_u1 (Z : State) (a1 : Addr) (p3 : Int32) (p4 : Int32) (bi bf bp bc bn : Addr) (ki kf kp kc kn : ClassId) (I F : List Int32) (n : Nat) (h0 : Heap) (n0 : Nat) (v : Option Value) (h : Heap) (L : List Loc) : Prop := v = some (.int (1 : Int32)) ∧ Fr n0 L ∧ h0.size ≤ h.size ∧ own_St Z h n0 a1 bi bf bp bc bn ki kf kp kc kn I F (max n (1 + 1))
theorem rm4_u1 (l : Launch) (Z : State) (a0 : Array Value) (hw : ∀ d ∈ tables_1, d.before a0 Z = true) (ws : List Jvm.Cond) (a1 : Addr) (p3 : Int32) (p4 : Int32) (bi bf bp bc bn : Addr) (ki kf kp kc kn : ClassId) (I F : List Int32) (n : Nat) (h0 : Heap) (n0 : Nat) (Z0 : n0 ≤ h0.size) (CX : own_Cx Z n0 a1 bi bf bp bc bn kc I F) (ST : own_St Z h0 n0 a1 bi bf bp bc bn ki kf kp kc kn I F n) (hin : 1 ≤ n) (hn7 : n ≤ 7) (h3 : I.getD 1 0 = p3) (h4 : F.getD 1 0 = p4) :
    MetFree l mn_3 (head1 (Jvm.Cond.code mn_3 prog_23_method_3_code 8 (some .int) :: ws) ({ frames := 2, cells := 1, slots := 4, locals := 35 } : Room)) (fun a U => a = #[(.ref a1), (.int (0 : Int32)), (.int p3), (.int p4)] ∧ Z.Warmed39 U.vm ∧ U.heap = h0) (fun _ _ _ _ _ => True) (fun _ U o U' => ∃ v L, o = .returned v ∧ Q4_u1 Z a1 p3 p4 bi bf bp bc bn ki kf kp kc kn I F n h0 n0 v U'.heap L ∧ FrameEnd U o U' L ({ frames := 2, cells := 1, slots := 4, locals := 35 } : Room).cells ({ frames := 2, cells := 1, slots := 4, locals := 35 } : Room).slots) := by
  have ST0 := ST
  obtain ⟨IL, FL, PL, v0, v1, v2, ⟨E_a1, F_size⟩, ⟨F_items, V_bi⟩, ⟨F_sameEvents, V_bf⟩, ⟨F_parents, V_bp⟩, ⟨F_children, V_bc⟩, ⟨F_childCounts, V_bn⟩, ⟨hIL, hFL, hPL⟩, hkey, ⟨B0, B1, B2⟩, hd0, hd1⟩ := ST
  obtain ⟨⟨g_a1, g_bi, g_bf, g_bp, g_bc, g_bn⟩, ⟨ne_a1_bi, ne_a1_bf, ne_a1_bp, ne_a1_bc, ne_a1_bn, ne_bi_bf, ne_bi_bp, ne_bi_bc, ne_bi_bn, ne_bf_bp, ne_bf_bc, ne_bf_bn, ne_bp_bc, ne_bp_bn, ne_bc_bn⟩, O_bc, hfl, hk12, hk14, hk24, hk56⟩ := CX
  have hf4 : p4 = 0 ∨ p4 = 1 := h4 ▸ hfl 1
  have hkv : own_kp I F (1 : Int32) = own_kv p3 p4 := by show 2 * (I.getD 1 0).toInt + (F.getD 1 0).toInt = _; rw [h3, h4]; rfl
  by_cases hlt : 1 < n
  · refine MetFree.mono (rm4_F l Z a0 hw ws a1 (0 : Int32) p3 p4 bi bf bp bc bn ki kf kp kc kn IL FL PL (own_NL n) (own_CV3 v0 v1 v2) v0 (own_E0 (own_kp I F) n) (own_kp I F) (1 : Int32) n0 h0 E_a1 F_items V_bi F_sameEvents V_bf F_parents V_bp F_children V_bc F_childCounts V_bn (by decide) rfl (by rw [(own_asc0 hk12 hk14 hk24 n).2.1]; exact (own_nl n).1) B0 (own_asc0 hk12 hk14 hk24 n).1 (own_hE0 hkey hfl) hf4 ((own_asc0 hk12 hk14 hk24 n).2.2.1 hlt) ⟨(hkey 1 (by decide) hlt).1.trans h3, (hkey 1 (by decide) hlt).2.1.trans h4⟩) (fun _ _ q => q) (fun _ _ _ _ _ q => q) ?_
    rintro a_ s_ o_ s_' hP ⟨v, L, ho, ⟨hv, hL, hh⟩, hF⟩
    have hm : max n (1 + 1) = n := by omega
    refine ⟨v, L, ho, ⟨hv, hL ▸ Fr.nil n0, ?_, ?_⟩, hF⟩
    · rw [hh]; exact Nat.le_refl _
    · rw [hh, hm]; exact ST0
  · obtain rfl : n = 1 := by omega
    refine MetFree.mono (rm4_A l Z a0 hw ws a1 (0 : Int32) p3 p4 bi bf bp bc bn ki kf kp kc kn IL FL PL (own_NL 1) (own_CV3 v0 v1 v2) v0 (own_E0 (own_kp I F) 1) (own_kp I F) (1 : Int32) h0 n0 Z0 E_a1 F_items V_bi F_sameEvents V_bf F_parents V_bp F_children V_bc F_childCounts V_bn (by decide) rfl (by rw [(own_asc0 hk12 hk14 hk24 1).2.1]; exact (own_nl 1).1) B0 (own_asc0 hk12 hk14 hk24 1).1 (own_hE0 hkey hfl) hf4 hIL hFL hPL rfl rfl (by decide) F_size O_bc g_a1 g_bi g_bf g_bp g_bc g_bn ne_a1_bi ne_a1_bf ne_a1_bp ne_a1_bc ne_a1_bn ne_bi_bf ne_bi_bp ne_bi_bc ne_bi_bn ne_bf_bp ne_bf_bc ne_bf_bn ne_bp_bc ne_bp_bn ne_bc_bn hkv (fun e he => by rcases own_mem0 _ _ e he with ⟨rfl, h⟩ | ⟨rfl, h⟩ | ⟨rfl, h⟩ <;> first | exact hk12 | exact hk14 | exact hk24 | exact hk56 | omega) ⟨_, _, (ww hw 2 rfl)⟩ (by rw [(own_asc0 hk12 hk14 hk24 1).2.1]; decide)) (fun _ _ q => q) (fun _ _ _ _ _ q => q) ?_
    rintro a_ s_ o_ s_' hP ⟨v, L, ho, ⟨s4, hv, N, K, A1, A2, A3, A4, A5, A6, A7, A8, A9, A10, A11, A12, BN, hor⟩, hF⟩
    have d1 := own_apart B1 hor (fun q => (hd0 _ q).1)
    have d2 := own_apart B2 hor (fun q => (hd0 _ q).2)
    have C1 := own_Bk.keep K (own_notin E_a1 (ww hw 2 rfl) V_bi V_bf V_bp V_bc V_bn B1 d1) _ B1
    have C2 := own_Bk.keep K (own_notin E_a1 (ww hw 2 rfl) V_bi V_bf V_bp V_bc V_bn B2 d2) _ B2
    rw [(own_asc0 hk12 hk14 hk24 1).2.1] at A12
    have eS : (1 : Int32) + (1 : Int32) = Int32.ofNat (max 1 (1 + 1)) := by decide
    rw [eS] at A2
    refine ⟨v, L, ho, ⟨hv, N, K.1, ⟨_, _, _, .ref s4, v1, v2, ⟨A1, A2⟩, ⟨A3, A4⟩, ⟨A5, A6⟩, ⟨A7, A8⟩, ⟨A9, A10⟩, ⟨A11, A12⟩, ⟨by rw [List.length_set]; exact hIL, by rw [List.length_set]; exact hFL, by rw [List.length_set]; exact hPL⟩, own_hkeyS hkey hIL hFL hPL (by decide) h3 h4 rfl, ⟨BN, C1, C2⟩, fun s e => by cases e; exact ⟨fun q => d1 _ q rfl, fun q => d2 _ q rfl⟩, hd1⟩⟩, hF⟩
def Q4_u2 (Z : State) (a1 : Addr) (p3 : Int32) (p4 : Int32) (bi bf bp bc bn : Addr) (ki kf kp kc kn : ClassId) (I F : List Int32) (n : Nat) (h0 : Heap) (n0 : Nat) (v : Option Value) (h : Heap) (L : List Loc) : Prop := v = some (.int (2 : Int32)) ∧ Fr n0 L ∧ h0.size ≤ h.size ∧ own_St Z h n0 a1 bi bf bp bc bn ki kf kp kc kn I F (max n (2 + 1))
theorem rm4_u2 (l : Launch) (Z : State) (a0 : Array Value) (hw : ∀ d ∈ tables_1, d.before a0 Z = true) (ws : List Jvm.Cond) (a1 : Addr) (p3 : Int32) (p4 : Int32) (bi bf bp bc bn : Addr) (ki kf kp kc kn : ClassId) (I F : List Int32) (n : Nat) (h0 : Heap) (n0 : Nat) (Z0 : n0 ≤ h0.size) (CX : own_Cx Z n0 a1 bi bf bp bc bn kc I F) (ST : own_St Z h0 n0 a1 bi bf bp bc bn ki kf kp kc kn I F n) (hin : 2 ≤ n) (hn7 : n ≤ 7) (h3 : I.getD 2 0 = p3) (h4 : F.getD 2 0 = p4) :
    MetFree l mn_3 (head1 (Jvm.Cond.code mn_3 prog_23_method_3_code 8 (some .int) :: ws) ({ frames := 2, cells := 1, slots := 4, locals := 35 } : Room)) (fun a U => a = #[(.ref a1), (.int (0 : Int32)), (.int p3), (.int p4)] ∧ Z.Warmed39 U.vm ∧ U.heap = h0) (fun _ _ _ _ _ => True) (fun _ U o U' => ∃ v L, o = .returned v ∧ Q4_u2 Z a1 p3 p4 bi bf bp bc bn ki kf kp kc kn I F n h0 n0 v U'.heap L ∧ FrameEnd U o U' L ({ frames := 2, cells := 1, slots := 4, locals := 35 } : Room).cells ({ frames := 2, cells := 1, slots := 4, locals := 35 } : Room).slots) := by
  have ST0 := ST
  obtain ⟨IL, FL, PL, v0, v1, v2, ⟨E_a1, F_size⟩, ⟨F_items, V_bi⟩, ⟨F_sameEvents, V_bf⟩, ⟨F_parents, V_bp⟩, ⟨F_children, V_bc⟩, ⟨F_childCounts, V_bn⟩, ⟨hIL, hFL, hPL⟩, hkey, ⟨B0, B1, B2⟩, hd0, hd1⟩ := ST
  obtain ⟨⟨g_a1, g_bi, g_bf, g_bp, g_bc, g_bn⟩, ⟨ne_a1_bi, ne_a1_bf, ne_a1_bp, ne_a1_bc, ne_a1_bn, ne_bi_bf, ne_bi_bp, ne_bi_bc, ne_bi_bn, ne_bf_bp, ne_bf_bc, ne_bf_bn, ne_bp_bc, ne_bp_bn, ne_bc_bn⟩, O_bc, hfl, hk12, hk14, hk24, hk56⟩ := CX
  have hf4 : p4 = 0 ∨ p4 = 1 := h4 ▸ hfl 2
  have hkv : own_kp I F (2 : Int32) = own_kv p3 p4 := by show 2 * (I.getD 2 0).toInt + (F.getD 2 0).toInt = _; rw [h3, h4]; rfl
  by_cases hlt : 2 < n
  · refine MetFree.mono (rm4_F l Z a0 hw ws a1 (0 : Int32) p3 p4 bi bf bp bc bn ki kf kp kc kn IL FL PL (own_NL n) (own_CV3 v0 v1 v2) v0 (own_E0 (own_kp I F) n) (own_kp I F) (2 : Int32) n0 h0 E_a1 F_items V_bi F_sameEvents V_bf F_parents V_bp F_children V_bc F_childCounts V_bn (by decide) rfl (by rw [(own_asc0 hk12 hk14 hk24 n).2.1]; exact (own_nl n).1) B0 (own_asc0 hk12 hk14 hk24 n).1 (own_hE0 hkey hfl) hf4 ((own_asc0 hk12 hk14 hk24 n).2.2.2.1 hlt) ⟨(hkey 2 (by decide) hlt).1.trans h3, (hkey 2 (by decide) hlt).2.1.trans h4⟩) (fun _ _ q => q) (fun _ _ _ _ _ q => q) ?_
    rintro a_ s_ o_ s_' hP ⟨v, L, ho, ⟨hv, hL, hh⟩, hF⟩
    have hm : max n (2 + 1) = n := by omega
    refine ⟨v, L, ho, ⟨hv, hL ▸ Fr.nil n0, ?_, ?_⟩, hF⟩
    · rw [hh]; exact Nat.le_refl _
    · rw [hh, hm]; exact ST0
  · obtain rfl : n = 2 := by omega
    refine MetFree.mono (rm4_A l Z a0 hw ws a1 (0 : Int32) p3 p4 bi bf bp bc bn ki kf kp kc kn IL FL PL (own_NL 2) (own_CV3 v0 v1 v2) v0 (own_E0 (own_kp I F) 2) (own_kp I F) (2 : Int32) h0 n0 Z0 E_a1 F_items V_bi F_sameEvents V_bf F_parents V_bp F_children V_bc F_childCounts V_bn (by decide) rfl (by rw [(own_asc0 hk12 hk14 hk24 2).2.1]; exact (own_nl 2).1) B0 (own_asc0 hk12 hk14 hk24 2).1 (own_hE0 hkey hfl) hf4 hIL hFL hPL rfl rfl (by decide) F_size O_bc g_a1 g_bi g_bf g_bp g_bc g_bn ne_a1_bi ne_a1_bf ne_a1_bp ne_a1_bc ne_a1_bn ne_bi_bf ne_bi_bp ne_bi_bc ne_bi_bn ne_bf_bp ne_bf_bc ne_bf_bn ne_bp_bc ne_bp_bn ne_bc_bn hkv (fun e he => by rcases own_mem0 _ _ e he with ⟨rfl, h⟩ | ⟨rfl, h⟩ | ⟨rfl, h⟩ <;> first | exact hk12 | exact hk14 | exact hk24 | exact hk56 | omega) ⟨_, _, (ww hw 2 rfl)⟩ (by rw [(own_asc0 hk12 hk14 hk24 2).2.1]; decide)) (fun _ _ q => q) (fun _ _ _ _ _ q => q) ?_
    rintro a_ s_ o_ s_' hP ⟨v, L, ho, ⟨s4, hv, N, K, A1, A2, A3, A4, A5, A6, A7, A8, A9, A10, A11, A12, BN, hor⟩, hF⟩
    have d1 := own_apart B1 hor (fun q => (hd0 _ q).1)
    have d2 := own_apart B2 hor (fun q => (hd0 _ q).2)
    have C1 := own_Bk.keep K (own_notin E_a1 (ww hw 2 rfl) V_bi V_bf V_bp V_bc V_bn B1 d1) _ B1
    have C2 := own_Bk.keep K (own_notin E_a1 (ww hw 2 rfl) V_bi V_bf V_bp V_bc V_bn B2 d2) _ B2
    rw [(own_asc0 hk12 hk14 hk24 2).2.1] at A12
    have eS : (2 : Int32) + (1 : Int32) = Int32.ofNat (max 2 (2 + 1)) := by decide
    rw [eS] at A2
    refine ⟨v, L, ho, ⟨hv, N, K.1, ⟨_, _, _, .ref s4, v1, v2, ⟨A1, A2⟩, ⟨A3, A4⟩, ⟨A5, A6⟩, ⟨A7, A8⟩, ⟨A9, A10⟩, ⟨A11, A12⟩, ⟨by rw [List.length_set]; exact hIL, by rw [List.length_set]; exact hFL, by rw [List.length_set]; exact hPL⟩, own_hkeyS hkey hIL hFL hPL (by decide) h3 h4 rfl, ⟨BN, C1, C2⟩, fun s e => by cases e; exact ⟨fun q => d1 _ q rfl, fun q => d2 _ q rfl⟩, hd1⟩⟩, hF⟩
def Q4_u3 (Z : State) (a1 : Addr) (p3 : Int32) (p4 : Int32) (bi bf bp bc bn : Addr) (ki kf kp kc kn : ClassId) (I F : List Int32) (n : Nat) (h0 : Heap) (n0 : Nat) (v : Option Value) (h : Heap) (L : List Loc) : Prop := v = some (.int (3 : Int32)) ∧ Fr n0 L ∧ h0.size ≤ h.size ∧ own_St Z h n0 a1 bi bf bp bc bn ki kf kp kc kn I F (max n (3 + 1))
theorem rm4_u3 (l : Launch) (Z : State) (a0 : Array Value) (hw : ∀ d ∈ tables_1, d.before a0 Z = true) (ws : List Jvm.Cond) (a1 : Addr) (p3 : Int32) (p4 : Int32) (bi bf bp bc bn : Addr) (ki kf kp kc kn : ClassId) (I F : List Int32) (n : Nat) (h0 : Heap) (n0 : Nat) (Z0 : n0 ≤ h0.size) (CX : own_Cx Z n0 a1 bi bf bp bc bn kc I F) (ST : own_St Z h0 n0 a1 bi bf bp bc bn ki kf kp kc kn I F n) (hin : 3 ≤ n) (hn7 : n ≤ 7) (h3 : I.getD 3 0 = p3) (h4 : F.getD 3 0 = p4) :
    MetFree l mn_3 (head1 (Jvm.Cond.code mn_3 prog_23_method_3_code 8 (some .int) :: ws) ({ frames := 2, cells := 1, slots := 4, locals := 35 } : Room)) (fun a U => a = #[(.ref a1), (.int (1 : Int32)), (.int p3), (.int p4)] ∧ Z.Warmed39 U.vm ∧ U.heap = h0) (fun _ _ _ _ _ => True) (fun _ U o U' => ∃ v L, o = .returned v ∧ Q4_u3 Z a1 p3 p4 bi bf bp bc bn ki kf kp kc kn I F n h0 n0 v U'.heap L ∧ FrameEnd U o U' L ({ frames := 2, cells := 1, slots := 4, locals := 35 } : Room).cells ({ frames := 2, cells := 1, slots := 4, locals := 35 } : Room).slots) := by
  have ST0 := ST
  obtain ⟨IL, FL, PL, v0, v1, v2, ⟨E_a1, F_size⟩, ⟨F_items, V_bi⟩, ⟨F_sameEvents, V_bf⟩, ⟨F_parents, V_bp⟩, ⟨F_children, V_bc⟩, ⟨F_childCounts, V_bn⟩, ⟨hIL, hFL, hPL⟩, hkey, ⟨B0, B1, B2⟩, hd0, hd1⟩ := ST
  obtain ⟨⟨g_a1, g_bi, g_bf, g_bp, g_bc, g_bn⟩, ⟨ne_a1_bi, ne_a1_bf, ne_a1_bp, ne_a1_bc, ne_a1_bn, ne_bi_bf, ne_bi_bp, ne_bi_bc, ne_bi_bn, ne_bf_bp, ne_bf_bc, ne_bf_bn, ne_bp_bc, ne_bp_bn, ne_bc_bn⟩, O_bc, hfl, hk12, hk14, hk24, hk56⟩ := CX
  have hf4 : p4 = 0 ∨ p4 = 1 := h4 ▸ hfl 3
  have hkv : own_kp I F (3 : Int32) = own_kv p3 p4 := by show 2 * (I.getD 3 0).toInt + (F.getD 3 0).toInt = _; rw [h3, h4]; rfl
  by_cases hlt : 3 < n
  · refine MetFree.mono (rm4_F l Z a0 hw ws a1 (1 : Int32) p3 p4 bi bf bp bc bn ki kf kp kc kn IL FL PL (own_NL n) (own_CV3 v0 v1 v2) v1 (own_E1 n) (own_kp I F) (3 : Int32) n0 h0 E_a1 F_items V_bi F_sameEvents V_bf F_parents V_bp F_children V_bc F_childCounts V_bn (by decide) rfl (by rw [(own_asc1 (own_kp I F) n).2.1]; exact (own_nl n).2.1) B1 (own_asc1 (own_kp I F) n).1 (own_hE1 hkey hfl) hf4 ((own_asc1 (own_kp I F) n).2.2 hlt) ⟨(hkey 3 (by decide) hlt).1.trans h3, (hkey 3 (by decide) hlt).2.1.trans h4⟩) (fun _ _ q => q) (fun _ _ _ _ _ q => q) ?_
    rintro a_ s_ o_ s_' hP ⟨v, L, ho, ⟨hv, hL, hh⟩, hF⟩
    have hm : max n (3 + 1) = n := by omega
    refine ⟨v, L, ho, ⟨hv, hL ▸ Fr.nil n0, ?_, ?_⟩, hF⟩
    · rw [hh]; exact Nat.le_refl _
    · rw [hh, hm]; exact ST0
  · obtain rfl : n = 3 := by omega
    refine MetFree.mono (rm4_A l Z a0 hw ws a1 (1 : Int32) p3 p4 bi bf bp bc bn ki kf kp kc kn IL FL PL (own_NL 3) (own_CV3 v0 v1 v2) v1 (own_E1 3) (own_kp I F) (3 : Int32) h0 n0 Z0 E_a1 F_items V_bi F_sameEvents V_bf F_parents V_bp F_children V_bc F_childCounts V_bn (by decide) rfl (by rw [(own_asc1 (own_kp I F) 3).2.1]; exact (own_nl 3).2.1) B1 (own_asc1 (own_kp I F) 3).1 (own_hE1 hkey hfl) hf4 hIL hFL hPL rfl rfl (by decide) F_size O_bc g_a1 g_bi g_bf g_bp g_bc g_bn ne_a1_bi ne_a1_bf ne_a1_bp ne_a1_bc ne_a1_bn ne_bi_bf ne_bi_bp ne_bi_bc ne_bi_bn ne_bf_bp ne_bf_bc ne_bf_bn ne_bp_bc ne_bp_bn ne_bc_bn hkv (fun e he => by rcases own_mem1 _ e he with ⟨rfl, h⟩ <;> first | exact hk12 | exact hk14 | exact hk24 | exact hk56 | omega) ⟨_, _, (ww hw 2 rfl)⟩ (by rw [(own_asc1 (own_kp I F) 3).2.1]; decide)) (fun _ _ q => q) (fun _ _ _ _ _ q => q) ?_
    rintro a_ s_ o_ s_' hP ⟨v, L, ho, ⟨s4, hv, N, K, A1, A2, A3, A4, A5, A6, A7, A8, A9, A10, A11, A12, BN, hor⟩, hF⟩
    have d0 := own_apart B0 hor (fun q => fun z => (hd0 _ z).1 q)
    have d2 := own_apart B2 hor (fun q => hd1 _ q)
    have C0 := own_Bk.keep K (own_notin E_a1 (ww hw 2 rfl) V_bi V_bf V_bp V_bc V_bn B0 d0) _ B0
    have C2 := own_Bk.keep K (own_notin E_a1 (ww hw 2 rfl) V_bi V_bf V_bp V_bc V_bn B2 d2) _ B2
    rw [(own_asc1 (own_kp I F) 3).2.1] at A12
    have eS : (3 : Int32) + (1 : Int32) = Int32.ofNat (max 3 (3 + 1)) := by decide
    rw [eS] at A2
    refine ⟨v, L, ho, ⟨hv, N, K.1, ⟨_, _, _, v0, .ref s4, v2, ⟨A1, A2⟩, ⟨A3, A4⟩, ⟨A5, A6⟩, ⟨A7, A8⟩, ⟨A9, A10⟩, ⟨A11, A12⟩, ⟨by rw [List.length_set]; exact hIL, by rw [List.length_set]; exact hFL, by rw [List.length_set]; exact hPL⟩, own_hkeyS hkey hIL hFL hPL (by decide) h3 h4 rfl, ⟨C0, BN, C2⟩, fun s e => ⟨fun q => d0 s e (Value.ref.inj q).symm, (hd0 s e).2⟩, fun s e => by cases e; exact fun q => d2 _ q rfl⟩⟩, hF⟩
def Q4_u4 (Z : State) (a1 : Addr) (p3 : Int32) (p4 : Int32) (bi bf bp bc bn : Addr) (ki kf kp kc kn : ClassId) (I F : List Int32) (n : Nat) (h0 : Heap) (n0 : Nat) (v : Option Value) (h : Heap) (L : List Loc) : Prop := v = some (.int (4 : Int32)) ∧ Fr n0 L ∧ h0.size ≤ h.size ∧ own_St Z h n0 a1 bi bf bp bc bn ki kf kp kc kn I F (max n (4 + 1))
theorem rm4_u4 (l : Launch) (Z : State) (a0 : Array Value) (hw : ∀ d ∈ tables_1, d.before a0 Z = true) (ws : List Jvm.Cond) (a1 : Addr) (p3 : Int32) (p4 : Int32) (bi bf bp bc bn : Addr) (ki kf kp kc kn : ClassId) (I F : List Int32) (n : Nat) (h0 : Heap) (n0 : Nat) (Z0 : n0 ≤ h0.size) (CX : own_Cx Z n0 a1 bi bf bp bc bn kc I F) (ST : own_St Z h0 n0 a1 bi bf bp bc bn ki kf kp kc kn I F n) (hin : 4 ≤ n) (hn7 : n ≤ 7) (h3 : I.getD 4 0 = p3) (h4 : F.getD 4 0 = p4) :
    MetFree l mn_3 (head1 (Jvm.Cond.code mn_3 prog_23_method_3_code 8 (some .int) :: ws) ({ frames := 2, cells := 1, slots := 4, locals := 35 } : Room)) (fun a U => a = #[(.ref a1), (.int (0 : Int32)), (.int p3), (.int p4)] ∧ Z.Warmed39 U.vm ∧ U.heap = h0) (fun _ _ _ _ _ => True) (fun _ U o U' => ∃ v L, o = .returned v ∧ Q4_u4 Z a1 p3 p4 bi bf bp bc bn ki kf kp kc kn I F n h0 n0 v U'.heap L ∧ FrameEnd U o U' L ({ frames := 2, cells := 1, slots := 4, locals := 35 } : Room).cells ({ frames := 2, cells := 1, slots := 4, locals := 35 } : Room).slots) := by
  have ST0 := ST
  obtain ⟨IL, FL, PL, v0, v1, v2, ⟨E_a1, F_size⟩, ⟨F_items, V_bi⟩, ⟨F_sameEvents, V_bf⟩, ⟨F_parents, V_bp⟩, ⟨F_children, V_bc⟩, ⟨F_childCounts, V_bn⟩, ⟨hIL, hFL, hPL⟩, hkey, ⟨B0, B1, B2⟩, hd0, hd1⟩ := ST
  obtain ⟨⟨g_a1, g_bi, g_bf, g_bp, g_bc, g_bn⟩, ⟨ne_a1_bi, ne_a1_bf, ne_a1_bp, ne_a1_bc, ne_a1_bn, ne_bi_bf, ne_bi_bp, ne_bi_bc, ne_bi_bn, ne_bf_bp, ne_bf_bc, ne_bf_bn, ne_bp_bc, ne_bp_bn, ne_bc_bn⟩, O_bc, hfl, hk12, hk14, hk24, hk56⟩ := CX
  have hf4 : p4 = 0 ∨ p4 = 1 := h4 ▸ hfl 4
  have hkv : own_kp I F (4 : Int32) = own_kv p3 p4 := by show 2 * (I.getD 4 0).toInt + (F.getD 4 0).toInt = _; rw [h3, h4]; rfl
  by_cases hlt : 4 < n
  · refine MetFree.mono (rm4_F l Z a0 hw ws a1 (0 : Int32) p3 p4 bi bf bp bc bn ki kf kp kc kn IL FL PL (own_NL n) (own_CV3 v0 v1 v2) v0 (own_E0 (own_kp I F) n) (own_kp I F) (4 : Int32) n0 h0 E_a1 F_items V_bi F_sameEvents V_bf F_parents V_bp F_children V_bc F_childCounts V_bn (by decide) rfl (by rw [(own_asc0 hk12 hk14 hk24 n).2.1]; exact (own_nl n).1) B0 (own_asc0 hk12 hk14 hk24 n).1 (own_hE0 hkey hfl) hf4 ((own_asc0 hk12 hk14 hk24 n).2.2.2.2 hlt) ⟨(hkey 4 (by decide) hlt).1.trans h3, (hkey 4 (by decide) hlt).2.1.trans h4⟩) (fun _ _ q => q) (fun _ _ _ _ _ q => q) ?_
    rintro a_ s_ o_ s_' hP ⟨v, L, ho, ⟨hv, hL, hh⟩, hF⟩
    have hm : max n (4 + 1) = n := by omega
    refine ⟨v, L, ho, ⟨hv, hL ▸ Fr.nil n0, ?_, ?_⟩, hF⟩
    · rw [hh]; exact Nat.le_refl _
    · rw [hh, hm]; exact ST0
  · obtain rfl : n = 4 := by omega
    refine MetFree.mono (rm4_A l Z a0 hw ws a1 (0 : Int32) p3 p4 bi bf bp bc bn ki kf kp kc kn IL FL PL (own_NL 4) (own_CV3 v0 v1 v2) v0 (own_E0 (own_kp I F) 4) (own_kp I F) (4 : Int32) h0 n0 Z0 E_a1 F_items V_bi F_sameEvents V_bf F_parents V_bp F_children V_bc F_childCounts V_bn (by decide) rfl (by rw [(own_asc0 hk12 hk14 hk24 4).2.1]; exact (own_nl 4).1) B0 (own_asc0 hk12 hk14 hk24 4).1 (own_hE0 hkey hfl) hf4 hIL hFL hPL rfl rfl (by decide) F_size O_bc g_a1 g_bi g_bf g_bp g_bc g_bn ne_a1_bi ne_a1_bf ne_a1_bp ne_a1_bc ne_a1_bn ne_bi_bf ne_bi_bp ne_bi_bc ne_bi_bn ne_bf_bp ne_bf_bc ne_bf_bn ne_bp_bc ne_bp_bn ne_bc_bn hkv (fun e he => by rcases own_mem0 _ _ e he with ⟨rfl, h⟩ | ⟨rfl, h⟩ | ⟨rfl, h⟩ <;> first | exact hk12 | exact hk14 | exact hk24 | exact hk56 | omega) ⟨_, _, (ww hw 2 rfl)⟩ (by rw [(own_asc0 hk12 hk14 hk24 4).2.1]; decide)) (fun _ _ q => q) (fun _ _ _ _ _ q => q) ?_
    rintro a_ s_ o_ s_' hP ⟨v, L, ho, ⟨s4, hv, N, K, A1, A2, A3, A4, A5, A6, A7, A8, A9, A10, A11, A12, BN, hor⟩, hF⟩
    have d1 := own_apart B1 hor (fun q => (hd0 _ q).1)
    have d2 := own_apart B2 hor (fun q => (hd0 _ q).2)
    have C1 := own_Bk.keep K (own_notin E_a1 (ww hw 2 rfl) V_bi V_bf V_bp V_bc V_bn B1 d1) _ B1
    have C2 := own_Bk.keep K (own_notin E_a1 (ww hw 2 rfl) V_bi V_bf V_bp V_bc V_bn B2 d2) _ B2
    rw [(own_asc0 hk12 hk14 hk24 4).2.1] at A12
    have eS : (4 : Int32) + (1 : Int32) = Int32.ofNat (max 4 (4 + 1)) := by decide
    rw [eS] at A2
    refine ⟨v, L, ho, ⟨hv, N, K.1, ⟨_, _, _, .ref s4, v1, v2, ⟨A1, A2⟩, ⟨A3, A4⟩, ⟨A5, A6⟩, ⟨A7, A8⟩, ⟨A9, A10⟩, ⟨A11, A12⟩, ⟨by rw [List.length_set]; exact hIL, by rw [List.length_set]; exact hFL, by rw [List.length_set]; exact hPL⟩, own_hkeyS hkey hIL hFL hPL (by decide) h3 h4 rfl, ⟨BN, C1, C2⟩, fun s e => by cases e; exact ⟨fun q => d1 _ q rfl, fun q => d2 _ q rfl⟩, hd1⟩⟩, hF⟩
def Q4_u5 (Z : State) (a1 : Addr) (p3 : Int32) (p4 : Int32) (bi bf bp bc bn : Addr) (ki kf kp kc kn : ClassId) (I F : List Int32) (n : Nat) (h0 : Heap) (n0 : Nat) (v : Option Value) (h : Heap) (L : List Loc) : Prop := v = some (.int (5 : Int32)) ∧ Fr n0 L ∧ h0.size ≤ h.size ∧ own_St Z h n0 a1 bi bf bp bc bn ki kf kp kc kn I F (max n (5 + 1))
theorem rm4_u5 (l : Launch) (Z : State) (a0 : Array Value) (hw : ∀ d ∈ tables_1, d.before a0 Z = true) (ws : List Jvm.Cond) (a1 : Addr) (p3 : Int32) (p4 : Int32) (bi bf bp bc bn : Addr) (ki kf kp kc kn : ClassId) (I F : List Int32) (n : Nat) (h0 : Heap) (n0 : Nat) (Z0 : n0 ≤ h0.size) (CX : own_Cx Z n0 a1 bi bf bp bc bn kc I F) (ST : own_St Z h0 n0 a1 bi bf bp bc bn ki kf kp kc kn I F n) (hin : 5 ≤ n) (hn7 : n ≤ 7) (h3 : I.getD 5 0 = p3) (h4 : F.getD 5 0 = p4) :
    MetFree l mn_3 (head1 (Jvm.Cond.code mn_3 prog_23_method_3_code 8 (some .int) :: ws) ({ frames := 2, cells := 1, slots := 4, locals := 35 } : Room)) (fun a U => a = #[(.ref a1), (.int (2 : Int32)), (.int p3), (.int p4)] ∧ Z.Warmed39 U.vm ∧ U.heap = h0) (fun _ _ _ _ _ => True) (fun _ U o U' => ∃ v L, o = .returned v ∧ Q4_u5 Z a1 p3 p4 bi bf bp bc bn ki kf kp kc kn I F n h0 n0 v U'.heap L ∧ FrameEnd U o U' L ({ frames := 2, cells := 1, slots := 4, locals := 35 } : Room).cells ({ frames := 2, cells := 1, slots := 4, locals := 35 } : Room).slots) := by
  have ST0 := ST
  obtain ⟨IL, FL, PL, v0, v1, v2, ⟨E_a1, F_size⟩, ⟨F_items, V_bi⟩, ⟨F_sameEvents, V_bf⟩, ⟨F_parents, V_bp⟩, ⟨F_children, V_bc⟩, ⟨F_childCounts, V_bn⟩, ⟨hIL, hFL, hPL⟩, hkey, ⟨B0, B1, B2⟩, hd0, hd1⟩ := ST
  obtain ⟨⟨g_a1, g_bi, g_bf, g_bp, g_bc, g_bn⟩, ⟨ne_a1_bi, ne_a1_bf, ne_a1_bp, ne_a1_bc, ne_a1_bn, ne_bi_bf, ne_bi_bp, ne_bi_bc, ne_bi_bn, ne_bf_bp, ne_bf_bc, ne_bf_bn, ne_bp_bc, ne_bp_bn, ne_bc_bn⟩, O_bc, hfl, hk12, hk14, hk24, hk56⟩ := CX
  have hf4 : p4 = 0 ∨ p4 = 1 := h4 ▸ hfl 5
  have hkv : own_kp I F (5 : Int32) = own_kv p3 p4 := by show 2 * (I.getD 5 0).toInt + (F.getD 5 0).toInt = _; rw [h3, h4]; rfl
  by_cases hlt : 5 < n
  · refine MetFree.mono (rm4_F l Z a0 hw ws a1 (2 : Int32) p3 p4 bi bf bp bc bn ki kf kp kc kn IL FL PL (own_NL n) (own_CV3 v0 v1 v2) v2 (own_E2 (own_kp I F) n) (own_kp I F) (5 : Int32) n0 h0 E_a1 F_items V_bi F_sameEvents V_bf F_parents V_bp F_children V_bc F_childCounts V_bn (by decide) rfl (by rw [(own_asc2 hk56 n).2.1]; exact (own_nl n).2.2) B2 (own_asc2 hk56 n).1 (own_hE2 hkey hfl) hf4 ((own_asc2 hk56 n).2.2.1 hlt) ⟨(hkey 5 (by decide) hlt).1.trans h3, (hkey 5 (by decide) hlt).2.1.trans h4⟩) (fun _ _ q => q) (fun _ _ _ _ _ q => q) ?_
    rintro a_ s_ o_ s_' hP ⟨v, L, ho, ⟨hv, hL, hh⟩, hF⟩
    have hm : max n (5 + 1) = n := by omega
    refine ⟨v, L, ho, ⟨hv, hL ▸ Fr.nil n0, ?_, ?_⟩, hF⟩
    · rw [hh]; exact Nat.le_refl _
    · rw [hh, hm]; exact ST0
  · obtain rfl : n = 5 := by omega
    refine MetFree.mono (rm4_A l Z a0 hw ws a1 (2 : Int32) p3 p4 bi bf bp bc bn ki kf kp kc kn IL FL PL (own_NL 5) (own_CV3 v0 v1 v2) v2 (own_E2 (own_kp I F) 5) (own_kp I F) (5 : Int32) h0 n0 Z0 E_a1 F_items V_bi F_sameEvents V_bf F_parents V_bp F_children V_bc F_childCounts V_bn (by decide) rfl (by rw [(own_asc2 hk56 5).2.1]; exact (own_nl 5).2.2) B2 (own_asc2 hk56 5).1 (own_hE2 hkey hfl) hf4 hIL hFL hPL rfl rfl (by decide) F_size O_bc g_a1 g_bi g_bf g_bp g_bc g_bn ne_a1_bi ne_a1_bf ne_a1_bp ne_a1_bc ne_a1_bn ne_bi_bf ne_bi_bp ne_bi_bc ne_bi_bn ne_bf_bp ne_bf_bc ne_bf_bn ne_bp_bc ne_bp_bn ne_bc_bn hkv (fun e he => by rcases own_mem2 _ _ e he with ⟨rfl, h⟩ | ⟨rfl, h⟩ <;> first | exact hk12 | exact hk14 | exact hk24 | exact hk56 | omega) ⟨_, _, (ww hw 2 rfl)⟩ (by rw [(own_asc2 hk56 5).2.1]; decide)) (fun _ _ q => q) (fun _ _ _ _ _ q => q) ?_
    rintro a_ s_ o_ s_' hP ⟨v, L, ho, ⟨s4, hv, N, K, A1, A2, A3, A4, A5, A6, A7, A8, A9, A10, A11, A12, BN, hor⟩, hF⟩
    have d0 := own_apart B0 hor (fun q => fun z => (hd0 _ z).2 q)
    have d1 := own_apart B1 hor (fun q => fun z => hd1 _ z q)
    have C0 := own_Bk.keep K (own_notin E_a1 (ww hw 2 rfl) V_bi V_bf V_bp V_bc V_bn B0 d0) _ B0
    have C1 := own_Bk.keep K (own_notin E_a1 (ww hw 2 rfl) V_bi V_bf V_bp V_bc V_bn B1 d1) _ B1
    rw [(own_asc2 hk56 5).2.1] at A12
    have eS : (5 : Int32) + (1 : Int32) = Int32.ofNat (max 5 (5 + 1)) := by decide
    rw [eS] at A2
    refine ⟨v, L, ho, ⟨hv, N, K.1, ⟨_, _, _, v0, v1, .ref s4, ⟨A1, A2⟩, ⟨A3, A4⟩, ⟨A5, A6⟩, ⟨A7, A8⟩, ⟨A9, A10⟩, ⟨A11, A12⟩, ⟨by rw [List.length_set]; exact hIL, by rw [List.length_set]; exact hFL, by rw [List.length_set]; exact hPL⟩, own_hkeyS hkey hIL hFL hPL (by decide) h3 h4 rfl, ⟨C0, C1, BN⟩, fun s e => ⟨(hd0 s e).1, fun q => d0 s e (Value.ref.inj q).symm⟩, fun s e q => d1 s e (Value.ref.inj q).symm⟩⟩, hF⟩
def Q4_u6 (Z : State) (a1 : Addr) (p3 : Int32) (p4 : Int32) (bi bf bp bc bn : Addr) (ki kf kp kc kn : ClassId) (I F : List Int32) (n : Nat) (h0 : Heap) (n0 : Nat) (v : Option Value) (h : Heap) (L : List Loc) : Prop := v = some (.int (6 : Int32)) ∧ Fr n0 L ∧ h0.size ≤ h.size ∧ own_St Z h n0 a1 bi bf bp bc bn ki kf kp kc kn I F (max n (6 + 1))
theorem rm4_u6 (l : Launch) (Z : State) (a0 : Array Value) (hw : ∀ d ∈ tables_1, d.before a0 Z = true) (ws : List Jvm.Cond) (a1 : Addr) (p3 : Int32) (p4 : Int32) (bi bf bp bc bn : Addr) (ki kf kp kc kn : ClassId) (I F : List Int32) (n : Nat) (h0 : Heap) (n0 : Nat) (Z0 : n0 ≤ h0.size) (CX : own_Cx Z n0 a1 bi bf bp bc bn kc I F) (ST : own_St Z h0 n0 a1 bi bf bp bc bn ki kf kp kc kn I F n) (hin : 6 ≤ n) (hn7 : n ≤ 7) (h3 : I.getD 6 0 = p3) (h4 : F.getD 6 0 = p4) :
    MetFree l mn_3 (head1 (Jvm.Cond.code mn_3 prog_23_method_3_code 8 (some .int) :: ws) ({ frames := 2, cells := 1, slots := 4, locals := 35 } : Room)) (fun a U => a = #[(.ref a1), (.int (2 : Int32)), (.int p3), (.int p4)] ∧ Z.Warmed39 U.vm ∧ U.heap = h0) (fun _ _ _ _ _ => True) (fun _ U o U' => ∃ v L, o = .returned v ∧ Q4_u6 Z a1 p3 p4 bi bf bp bc bn ki kf kp kc kn I F n h0 n0 v U'.heap L ∧ FrameEnd U o U' L ({ frames := 2, cells := 1, slots := 4, locals := 35 } : Room).cells ({ frames := 2, cells := 1, slots := 4, locals := 35 } : Room).slots) := by
  have ST0 := ST
  obtain ⟨IL, FL, PL, v0, v1, v2, ⟨E_a1, F_size⟩, ⟨F_items, V_bi⟩, ⟨F_sameEvents, V_bf⟩, ⟨F_parents, V_bp⟩, ⟨F_children, V_bc⟩, ⟨F_childCounts, V_bn⟩, ⟨hIL, hFL, hPL⟩, hkey, ⟨B0, B1, B2⟩, hd0, hd1⟩ := ST
  obtain ⟨⟨g_a1, g_bi, g_bf, g_bp, g_bc, g_bn⟩, ⟨ne_a1_bi, ne_a1_bf, ne_a1_bp, ne_a1_bc, ne_a1_bn, ne_bi_bf, ne_bi_bp, ne_bi_bc, ne_bi_bn, ne_bf_bp, ne_bf_bc, ne_bf_bn, ne_bp_bc, ne_bp_bn, ne_bc_bn⟩, O_bc, hfl, hk12, hk14, hk24, hk56⟩ := CX
  have hf4 : p4 = 0 ∨ p4 = 1 := h4 ▸ hfl 6
  have hkv : own_kp I F (6 : Int32) = own_kv p3 p4 := by show 2 * (I.getD 6 0).toInt + (F.getD 6 0).toInt = _; rw [h3, h4]; rfl
  by_cases hlt : 6 < n
  · refine MetFree.mono (rm4_F l Z a0 hw ws a1 (2 : Int32) p3 p4 bi bf bp bc bn ki kf kp kc kn IL FL PL (own_NL n) (own_CV3 v0 v1 v2) v2 (own_E2 (own_kp I F) n) (own_kp I F) (6 : Int32) n0 h0 E_a1 F_items V_bi F_sameEvents V_bf F_parents V_bp F_children V_bc F_childCounts V_bn (by decide) rfl (by rw [(own_asc2 hk56 n).2.1]; exact (own_nl n).2.2) B2 (own_asc2 hk56 n).1 (own_hE2 hkey hfl) hf4 ((own_asc2 hk56 n).2.2.2 hlt) ⟨(hkey 6 (by decide) hlt).1.trans h3, (hkey 6 (by decide) hlt).2.1.trans h4⟩) (fun _ _ q => q) (fun _ _ _ _ _ q => q) ?_
    rintro a_ s_ o_ s_' hP ⟨v, L, ho, ⟨hv, hL, hh⟩, hF⟩
    have hm : max n (6 + 1) = n := by omega
    refine ⟨v, L, ho, ⟨hv, hL ▸ Fr.nil n0, ?_, ?_⟩, hF⟩
    · rw [hh]; exact Nat.le_refl _
    · rw [hh, hm]; exact ST0
  · obtain rfl : n = 6 := by omega
    refine MetFree.mono (rm4_A l Z a0 hw ws a1 (2 : Int32) p3 p4 bi bf bp bc bn ki kf kp kc kn IL FL PL (own_NL 6) (own_CV3 v0 v1 v2) v2 (own_E2 (own_kp I F) 6) (own_kp I F) (6 : Int32) h0 n0 Z0 E_a1 F_items V_bi F_sameEvents V_bf F_parents V_bp F_children V_bc F_childCounts V_bn (by decide) rfl (by rw [(own_asc2 hk56 6).2.1]; exact (own_nl 6).2.2) B2 (own_asc2 hk56 6).1 (own_hE2 hkey hfl) hf4 hIL hFL hPL rfl rfl (by decide) F_size O_bc g_a1 g_bi g_bf g_bp g_bc g_bn ne_a1_bi ne_a1_bf ne_a1_bp ne_a1_bc ne_a1_bn ne_bi_bf ne_bi_bp ne_bi_bc ne_bi_bn ne_bf_bp ne_bf_bc ne_bf_bn ne_bp_bc ne_bp_bn ne_bc_bn hkv (fun e he => by rcases own_mem2 _ _ e he with ⟨rfl, h⟩ | ⟨rfl, h⟩ <;> first | exact hk12 | exact hk14 | exact hk24 | exact hk56 | omega) ⟨_, _, (ww hw 2 rfl)⟩ (by rw [(own_asc2 hk56 6).2.1]; decide)) (fun _ _ q => q) (fun _ _ _ _ _ q => q) ?_
    rintro a_ s_ o_ s_' hP ⟨v, L, ho, ⟨s4, hv, N, K, A1, A2, A3, A4, A5, A6, A7, A8, A9, A10, A11, A12, BN, hor⟩, hF⟩
    have d0 := own_apart B0 hor (fun q => fun z => (hd0 _ z).2 q)
    have d1 := own_apart B1 hor (fun q => fun z => hd1 _ z q)
    have C0 := own_Bk.keep K (own_notin E_a1 (ww hw 2 rfl) V_bi V_bf V_bp V_bc V_bn B0 d0) _ B0
    have C1 := own_Bk.keep K (own_notin E_a1 (ww hw 2 rfl) V_bi V_bf V_bp V_bc V_bn B1 d1) _ B1
    rw [(own_asc2 hk56 6).2.1] at A12
    have eS : (6 : Int32) + (1 : Int32) = Int32.ofNat (max 6 (6 + 1)) := by decide
    rw [eS] at A2
    refine ⟨v, L, ho, ⟨hv, N, K.1, ⟨_, _, _, v0, v1, .ref s4, ⟨A1, A2⟩, ⟨A3, A4⟩, ⟨A5, A6⟩, ⟨A7, A8⟩, ⟨A9, A10⟩, ⟨A11, A12⟩, ⟨by rw [List.length_set]; exact hIL, by rw [List.length_set]; exact hFL, by rw [List.length_set]; exact hPL⟩, own_hkeyS hkey hIL hFL hPL (by decide) h3 h4 rfl, ⟨C0, C1, BN⟩, fun s e => ⟨(hd0 s e).1, fun q => d0 s e (Value.ref.inj q).symm⟩, fun s e q => d1 s e (Value.ref.inj q).symm⟩⟩, hF⟩
def own_QT34 (Z : State) (a1 : Addr) (bi bf bp bc bn : Addr) (ki kf kp kc kn : ClassId) (IL FL PL : List Int32) (s0 s1 s2 : Addr) (q0 q1 q2 : ClassId) (x0_ x1_ x2_ x3_ y1_ y2_ y3_ z0_ z1_ z2_ z3_ : Int32) (h0 : Heap) (n0 : Nat) (K_ n1_ : Int32) (v : Option Value) (h : Heap) (L : List Loc) : Prop := ∃ r0 r1 r2 r3 u0 u1 u2 u3 : Int32, v = none ∧ Fr n0 L ∧ Keep h0 h [a1, bc, bn, s0, s1, s2] ∧ Exa Z h a1 "com/example/tidemine/tidemine/PatternTrie" ∧ Fld Z h a1 "com/example/tidemine/tidemine/PatternTrie" "size" "I" (.int K_) ∧ Fld Z h a1 "com/example/tidemine/tidemine/PatternTrie" "items" "[I" (.ref bi) ∧ Arv Z h bi ki .int (16 : Int32) (own_bs IL) (.int (0 : Int32)) ∧ Fld Z h a1 "com/example/tidemine/tidemine/PatternTrie" "sameEvents" "[Z" (.ref bf) ∧ Arv Z h bf kf .boolean (16 : Int32) (own_bs FL) (.int (0 : Int32)) ∧ Fld Z h a1 "com/example/tidemine/tidemine/PatternTrie" "parents" "[I" (.ref bp) ∧ Arv Z h bp kp .int (16 : Int32) (own_bs PL) (.int (0 : Int32)) ∧ Fld Z h a1 "com/example/tidemine/tidemine/PatternTrie" "children" "[[I" (.ref bc) ∧ Arv Z h bc kc (.array .int) (16 : Int32) [(.ref s0), (.ref s1), (.ref s2), .null, .null, .null, .null, .null, .null, .null, .null, .null, .null, .null, .null, .null] .null ∧ Fld Z h a1 "com/example/tidemine/tidemine/PatternTrie" "childCounts" "[I" (.ref bn) ∧ Arv Z h bn kn .int (16 : Int32) (own_bs [2, n1_, 0, 0, 0, 0, 0, 0, 0, 0, 0, 0, 0, 0, 0, 0]) (.int (0 : Int32)) ∧ Arv Z h s0 q0 .int (4 : Int32) (own_bs [r0, r1, r2, r3]) (.int (0 : Int32)) ∧ Exa Z h s0 "[I" ∧ Arv Z h s1 q1 .int (4 : Int32) (own_bs [3, y1_, y2_, y3_]) (.int (0 : Int32)) ∧ Exa Z h s1 "[I" ∧ Arv Z h s2 q2 .int (4 : Int32) (own_bs [u0, u1, u2, u3]) (.int (0 : Int32)) ∧ Exa Z h s2 "[I" ∧ (¬ x0_ < K_ → r0 = x1_ ∧ r1 = x2_) ∧ (¬ x1_ < K_ → r0 = x0_ ∧ r1 = x2_) ∧ (¬ x2_ < K_ → r0 = x0_ ∧ r1 = x1_)
def own_QT1 (Z : State) (a1 : Addr) (bi bf bp bc bn : Addr) (ki kf kp kc kn : ClassId) (IL FL PL : List Int32) (s0 s1 s2 : Addr) (q0 q1 q2 : ClassId) (x0_ x1_ x2_ x3_ y1_ y2_ y3_ z0_ z1_ z2_ z3_ : Int32) (h0 : Heap) (n0 : Nat) (v : Option Value) (h : Heap) (L : List Loc) : Prop := ∃ r0 r1 r2 r3 u0 u1 u2 u3 : Int32, v = none ∧ Fr n0 L ∧ Keep h0 h [a1, bc, bn, s0, s1, s2] ∧ Exa Z h a1 "com/example/tidemine/tidemine/PatternTrie" ∧ Fld Z h a1 "com/example/tidemine/tidemine/PatternTrie" "size" "I" (.int (1 : Int32)) ∧ Fld Z h a1 "com/example/tidemine/tidemine/PatternTrie" "items" "[I" (.ref bi) ∧ Arv Z h bi ki .int (16 : Int32) (own_bs IL) (.int (0 : Int32)) ∧ Fld Z h a1 "com/example/tidemine/tidemine/PatternTrie" "sameEvents" "[Z" (.ref bf) ∧ Arv Z h bf kf .boolean (16 : Int32) (own_bs FL) (.int (0 : Int32)) ∧ Fld Z h a1 "com/example/tidemine/tidemine/PatternTrie" "parents" "[I" (.ref bp) ∧ Arv Z h bp kp .int (16 : Int32) (own_bs PL) (.int (0 : Int32)) ∧ Fld Z h a1 "com/example/tidemine/tidemine/PatternTrie" "children" "[[I" (.ref bc) ∧ Arv Z h bc kc (.array .int) (16 : Int32) [(.ref s0), .null, .null, .null, .null, .null, .null, .null, .null, .null, .null, .null, .null, .null, .null, .null] .null ∧ Fld Z h a1 "com/example/tidemine/tidemine/PatternTrie" "childCounts" "[I" (.ref bn) ∧ Arv Z h bn kn .int (16 : Int32) (own_bs [0, 0, 0, 0, 0, 0, 0, 0, 0, 0, 0, 0, 0, 0, 0, 0]) (.int (0 : Int32)) ∧ Arv Z h s0 q0 .int (4 : Int32) (own_bs [r0, r1, r2, r3]) (.int (0 : Int32)) ∧ Exa Z h s0 "[I" ∧ Arv Z h s1 q1 .int (4 : Int32) (own_bs [3, y1_, y2_, y3_]) (.int (0 : Int32)) ∧ Exa Z h s1 "[I" ∧ Arv Z h s2 q2 .int (4 : Int32) (own_bs [u0, u1, u2, u3]) (.int (0 : Int32)) ∧ Exa Z h s2 "[I" ∧ True
def own_QT2 (Z : State) (a1 : Addr) (bi bf bp bc bn : Addr) (ki kf kp kc kn : ClassId) (IL FL PL : List Int32) (s0 s1 s2 : Addr) (q0 q1 q2 : ClassId) (x0_ x1_ x2_ x3_ y1_ y2_ y3_ z0_ z1_ z2_ z3_ : Int32) (h0 : Heap) (n0 : Nat) (v : Option Value) (h : Heap) (L : List Loc) : Prop := ∃ r0 r1 r2 r3 u0 u1 u2 u3 : Int32, v = none ∧ Fr n0 L ∧ Keep h0 h [a1, bc, bn, s0, s1, s2] ∧ Exa Z h a1 "com/example/tidemine/tidemine/PatternTrie" ∧ Fld Z h a1 "com/example/tidemine/tidemine/PatternTrie" "size" "I" (.int (2 : Int32)) ∧ Fld Z h a1 "com/example/tidemine/tidemine/PatternTrie" "items" "[I" (.ref bi) ∧ Arv Z h bi ki .int (16 : Int32) (own_bs IL) (.int (0 : Int32)) ∧ Fld Z h a1 "com/example/tidemine/tidemine/PatternTrie" "sameEvents" "[Z" (.ref bf) ∧ Arv Z h bf kf .boolean (16 : Int32) (own_bs FL) (.int (0 : Int32)) ∧ Fld Z h a1 "com/example/tidemine/tidemine/PatternTrie" "parents" "[I" (.ref bp) ∧ Arv Z h bp kp .int (16 : Int32) (own_bs PL) (.int (0 : Int32)) ∧ Fld Z h a1 "com/example/tidemine/tidemine/PatternTrie" "children" "[[I" (.ref bc) ∧ Arv Z h bc kc (.array .int) (16 : Int32) [(.ref s0), (.ref s1), .null, .null, .null, .null, .null, .null, .null, .null, .null, .null, .null, .null, .null, .null] .null ∧ Fld Z h a1 "com/example/tidemine/tidemine/PatternTrie" "childCounts" "[I" (.ref bn) ∧ Arv Z h bn kn .int (16 : Int32) (own_bs [1, 0, 0, 0, 0, 0, 0, 0, 0, 0, 0, 0, 0, 0, 0, 0]) (.int (0 : Int32)) ∧ Arv Z h s0 q0 .int (4 : Int32) (own_bs [r0, r1, r2, r3]) (.int (0 : Int32)) ∧ Exa Z h s0 "[I" ∧ Arv Z h s1 q1 .int (4 : Int32) (own_bs [3, y1_, y2_, y3_]) (.int (0 : Int32)) ∧ Exa Z h s1 "[I" ∧ Arv Z h s2 q2 .int (4 : Int32) (own_bs [u0, u1, u2, u3]) (.int (0 : Int32)) ∧ Exa Z h s2 "[I" ∧ (x0_ < (2 : Int32) → r0 = x0_) ∧ (x1_ < (2 : Int32) → r0 = x1_) ∧ (x2_ < (2 : Int32) → r0 = x2_)
def own_QT5 (Z : State) (a1 : Addr) (bi bf bp bc bn : Addr) (ki kf kp kc kn : ClassId) (IL FL PL : List Int32) (s0 s1 s2 : Addr) (q0 q1 q2 : ClassId) (x0_ x1_ x2_ x3_ y1_ y2_ y3_ z0_ z1_ z2_ z3_ : Int32) (h0 : Heap) (n0 : Nat) (v : Option Value) (h : Heap) (L : List Loc) : Prop := ∃ r0 r1 r2 r3 u0 u1 u2 u3 : Int32, v = none ∧ Fr n0 L ∧ Keep h0 h [a1, bc, bn, s0, s1, s2] ∧ Exa Z h a1 "com/example/tidemine/tidemine/PatternTrie" ∧ Fld Z h a1 "com/example/tidemine/tidemine/PatternTrie" "size" "I" (.int (5 : Int32)) ∧ Fld Z h a1 "com/example/tidemine/tidemine/PatternTrie" "items" "[I" (.ref bi) ∧ Arv Z h bi ki .int (16 : Int32) (own_bs IL) (.int (0 : Int32)) ∧ Fld Z h a1 "com/example/tidemine/tidemine/PatternTrie" "sameEvents" "[Z" (.ref bf) ∧ Arv Z h bf kf .boolean (16 : Int32) (own_bs FL) (.int (0 : Int32)) ∧ Fld Z h a1 "com/example/tidemine/tidemine/PatternTrie" "parents" "[I" (.ref bp) ∧ Arv Z h bp kp .int (16 : Int32) (own_bs PL) (.int (0 : Int32)) ∧ Fld Z h a1 "com/example/tidemine/tidemine/PatternTrie" "children" "[[I" (.ref bc) ∧ Arv Z h bc kc (.array .int) (16 : Int32) [(.ref s0), (.ref s1), (.ref s2), .null, .null, .null, .null, .null, .null, .null, .null, .null, .null, .null, .null, .null] .null ∧ Fld Z h a1 "com/example/tidemine/tidemine/PatternTrie" "childCounts" "[I" (.ref bn) ∧ Arv Z h bn kn .int (16 : Int32) (own_bs [3, 1, 0, 0, 0, 0, 0, 0, 0, 0, 0, 0, 0, 0, 0, 0]) (.int (0 : Int32)) ∧ Arv Z h s0 q0 .int (4 : Int32) (own_bs [r0, r1, r2, r3]) (.int (0 : Int32)) ∧ Exa Z h s0 "[I" ∧ Arv Z h s1 q1 .int (4 : Int32) (own_bs [3, y1_, y2_, y3_]) (.int (0 : Int32)) ∧ Exa Z h s1 "[I" ∧ Arv Z h s2 q2 .int (4 : Int32) (own_bs [u0, u1, u2, u3]) (.int (0 : Int32)) ∧ Exa Z h s2 "[I" ∧ r0 = x0_ ∧ r1 = x1_ ∧ r2 = x2_
def own_QT6 (Z : State) (a1 : Addr) (bi bf bp bc bn : Addr) (ki kf kp kc kn : ClassId) (IL FL PL : List Int32) (s0 s1 s2 : Addr) (q0 q1 q2 : ClassId) (x0_ x1_ x2_ x3_ y1_ y2_ y3_ z0_ z1_ z2_ z3_ : Int32) (h0 : Heap) (n0 : Nat) (v : Option Value) (h : Heap) (L : List Loc) : Prop := ∃ r0 r1 r2 r3 u0 u1 u2 u3 : Int32, v = none ∧ Fr n0 L ∧ Keep h0 h [a1, bc, bn, s0, s1, s2] ∧ Exa Z h a1 "com/example/tidemine/tidemine/PatternTrie" ∧ Fld Z h a1 "com/example/tidemine/tidemine/PatternTrie" "size" "I" (.int (6 : Int32)) ∧ Fld Z h a1 "com/example/tidemine/tidemine/PatternTrie" "items" "[I" (.ref bi) ∧ Arv Z h bi ki .int (16 : Int32) (own_bs IL) (.int (0 : Int32)) ∧ Fld Z h a1 "com/example/tidemine/tidemine/PatternTrie" "sameEvents" "[Z" (.ref bf) ∧ Arv Z h bf kf .boolean (16 : Int32) (own_bs FL) (.int (0 : Int32)) ∧ Fld Z h a1 "com/example/tidemine/tidemine/PatternTrie" "parents" "[I" (.ref bp) ∧ Arv Z h bp kp .int (16 : Int32) (own_bs PL) (.int (0 : Int32)) ∧ Fld Z h a1 "com/example/tidemine/tidemine/PatternTrie" "children" "[[I" (.ref bc) ∧ Arv Z h bc kc (.array .int) (16 : Int32) [(.ref s0), (.ref s1), (.ref s2), .null, .null, .null, .null, .null, .null, .null, .null, .null, .null, .null, .null, .null] .null ∧ Fld Z h a1 "com/example/tidemine/tidemine/PatternTrie" "childCounts" "[I" (.ref bn) ∧ Arv Z h bn kn .int (16 : Int32) (own_bs [3, 1, 1, 0, 0, 0, 0, 0, 0, 0, 0, 0, 0, 0, 0, 0]) (.int (0 : Int32)) ∧ Arv Z h s0 q0 .int (4 : Int32) (own_bs [r0, r1, r2, r3]) (.int (0 : Int32)) ∧ Exa Z h s0 "[I" ∧ Arv Z h s1 q1 .int (4 : Int32) (own_bs [3, y1_, y2_, y3_]) (.int (0 : Int32)) ∧ Exa Z h s1 "[I" ∧ Arv Z h s2 q2 .int (4 : Int32) (own_bs [u0, u1, u2, u3]) (.int (0 : Int32)) ∧ Exa Z h s2 "[I" ∧ r0 = x0_ ∧ r1 = x1_ ∧ r2 = x2_ ∧ (z0_ < (6 : Int32) → u0 = z0_) ∧ (z1_ < (6 : Int32) → u0 = z1_)
def own_QT7 (Z : State) (a1 : Addr) (bi bf bp bc bn : Addr) (ki kf kp kc kn : ClassId) (IL FL PL : List Int32) (s0 s1 s2 : Addr) (q0 q1 q2 : ClassId) (x0_ x1_ x2_ x3_ y1_ y2_ y3_ z0_ z1_ z2_ z3_ : Int32) (h0 : Heap) (n0 : Nat) (v : Option Value) (h : Heap) (L : List Loc) : Prop := ∃ r0 r1 r2 r3 u0 u1 u2 u3 : Int32, v = none ∧ Fr n0 L ∧ Keep h0 h [a1, bc, bn, s0, s1, s2] ∧ Exa Z h a1 "com/example/tidemine/tidemine/PatternTrie" ∧ Fld Z h a1 "com/example/tidemine/tidemine/PatternTrie" "size" "I" (.int (7 : Int32)) ∧ Fld Z h a1 "com/example/tidemine/tidemine/PatternTrie" "items" "[I" (.ref bi) ∧ Arv Z h bi ki .int (16 : Int32) (own_bs IL) (.int (0 : Int32)) ∧ Fld Z h a1 "com/example/tidemine/tidemine/PatternTrie" "sameEvents" "[Z" (.ref bf) ∧ Arv Z h bf kf .boolean (16 : Int32) (own_bs FL) (.int (0 : Int32)) ∧ Fld Z h a1 "com/example/tidemine/tidemine/PatternTrie" "parents" "[I" (.ref bp) ∧ Arv Z h bp kp .int (16 : Int32) (own_bs PL) (.int (0 : Int32)) ∧ Fld Z h a1 "com/example/tidemine/tidemine/PatternTrie" "children" "[[I" (.ref bc) ∧ Arv Z h bc kc (.array .int) (16 : Int32) [(.ref s0), (.ref s1), (.ref s2), .null, .null, .null, .null, .null, .null, .null, .null, .null, .null, .null, .null, .null] .null ∧ Fld Z h a1 "com/example/tidemine/tidemine/PatternTrie" "childCounts" "[I" (.ref bn) ∧ Arv Z h bn kn .int (16 : Int32) (own_bs [3, 1, 2, 0, 0, 0, 0, 0, 0, 0, 0, 0, 0, 0, 0, 0]) (.int (0 : Int32)) ∧ Arv Z h s0 q0 .int (4 : Int32) (own_bs [r0, r1, r2, r3]) (.int (0 : Int32)) ∧ Exa Z h s0 "[I" ∧ Arv Z h s1 q1 .int (4 : Int32) (own_bs [3, y1_, y2_, y3_]) (.int (0 : Int32)) ∧ Exa Z h s1 "[I" ∧ Arv Z h s2 q2 .int (4 : Int32) (own_bs [u0, u1, u2, u3]) (.int (0 : Int32)) ∧ Exa Z h s2 "[I" ∧ r0 = x0_ ∧ r1 = x1_ ∧ r2 = x2_ ∧ u0 = z0_ ∧ u1 = z1_
theorem d7_0 : decode prog_23_method_4_code 0 = .ok (.iconst (-1), 1) := by decide +kernel
theorem d7_1 : decode prog_23_method_4_code 1 = .ok (.istore_n 2, 1) := by decide +kernel
theorem d7_2 : decode prog_23_method_4_code 2 = .ok (.iload_n 1, 1) := by decide +kernel
theorem d7_3 : decode prog_23_method_4_code 3 = .ok (.istore_n 3, 1) := by decide +kernel
theorem d7_4 : decode prog_23_method_4_code 4 = .ok (.iload_n 3, 1) := by decide +kernel
theorem d7_5 : decode prog_23_method_4_code 5 = .ok (.aload_n 0, 1) := by decide +kernel
theorem d7_6 : decode prog_23_method_4_code 6 = .ok (.getfield 7, 3) := by decide +kernel
theorem d7_9 : decode prog_23_method_4_code 9 = .ok (.if_icmp .ge 110, 3) := by decide +kernel
theorem d7_12 : decode prog_23_method_4_code 12 = .ok (.aload_n 0, 1) := by decide +kernel
theorem d7_13 : decode prog_23_method_4_code 13 = .ok (.getfield 21, 3) := by decide +kernel
theorem d7_16 : decode prog_23_method_4_code 16 = .ok (.iload_n 3, 1) := by decide +kernel
theorem d7_17 : decode prog_23_method_4_code 17 = .ok (.iaload, 1) := by decide +kernel
theorem d7_18 : decode prog_23_method_4_code 18 = .ok (.istore 4, 2) := by decide +kernel
theorem d7_20 : decode prog_23_method_4_code 20 = .ok (.iload 4, 2) := by decide +kernel
theorem d7_22 : decode prog_23_method_4_code 22 = .ok (.iload_n 1, 1) := by decide +kernel
theorem d7_23 : decode prog_23_method_4_code 23 = .ok (.if_icmp .ge 76, 3) := by decide +kernel
theorem d7_26 : decode prog_23_method_4_code 26 = .ok (.iload 4, 2) := by decide +kernel
theorem d7_28 : decode prog_23_method_4_code 28 = .ok (.iload_n 2, 1) := by decide +kernel
theorem d7_29 : decode prog_23_method_4_code 29 = .ok (.if_icmp .eq 70, 3) := by decide +kernel
theorem d7_32 : decode prog_23_method_4_code 32 = .ok (.aload_n 0, 1) := by decide +kernel
theorem d7_33 : decode prog_23_method_4_code 33 = .ok (.getfield 25, 3) := by decide +kernel
theorem d7_36 : decode prog_23_method_4_code 36 = .ok (.iload 4, 2) := by decide +kernel
theorem d7_38 : decode prog_23_method_4_code 38 = .ok (.aaload, 1) := by decide +kernel
theorem d7_39 : decode prog_23_method_4_code 39 = .ok (.astore 5, 2) := by decide +kernel
theorem d7_41 : decode prog_23_method_4_code 41 = .ok (.iconst 0, 1) := by decide +kernel
theorem d7_42 : decode prog_23_method_4_code 42 = .ok (.istore 6, 2) := by decide +kernel
theorem d7_44 : decode prog_23_method_4_code 44 = .ok (.iconst 0, 1) := by decide +kernel
theorem d7_45 : decode prog_23_method_4_code 45 = .ok (.istore 7, 2) := by decide +kernel
theorem d7_47 : decode prog_23_method_4_code 47 = .ok (.iload 7, 2) := by decide +kernel
theorem d7_49 : decode prog_23_method_4_code 49 = .ok (.aload_n 0, 1) := by decide +kernel
theorem d7_50 : decode prog_23_method_4_code 50 = .ok (.getfield 29, 3) := by decide +kernel
theorem d7_53 : decode prog_23_method_4_code 53 = .ok (.iload 4, 2) := by decide +kernel
theorem d7_55 : decode prog_23_method_4_code 55 = .ok (.iaload, 1) := by decide +kernel
theorem d7_56 : decode prog_23_method_4_code 56 = .ok (.if_icmp .ge 31, 3) := by decide +kernel
theorem d7_59 : decode prog_23_method_4_code 59 = .ok (.aload 5, 2) := by decide +kernel
theorem d7_61 : decode prog_23_method_4_code 61 = .ok (.iload 7, 2) := by decide +kernel
theorem d7_63 : decode prog_23_method_4_code 63 = .ok (.iaload, 1) := by decide +kernel
theorem d7_64 : decode prog_23_method_4_code 64 = .ok (.iload_n 1, 1) := by decide +kernel
theorem d7_65 : decode prog_23_method_4_code 65 = .ok (.if_icmp .ge 16, 3) := by decide +kernel
theorem d7_81 : decode prog_23_method_4_code 81 = .ok (.iinc 7 1, 3) := by decide +kernel
theorem d7_84 : decode prog_23_method_4_code 84 = .ok (.goto (-37), 3) := by decide +kernel
theorem d7_87 : decode prog_23_method_4_code 87 = .ok (.aload_n 0, 1) := by decide +kernel
theorem d7_88 : decode prog_23_method_4_code 88 = .ok (.getfield 29, 3) := by decide +kernel
theorem d7_91 : decode prog_23_method_4_code 91 = .ok (.iload 4, 2) := by decide +kernel
theorem d7_93 : decode prog_23_method_4_code 93 = .ok (.iload 6, 2) := by decide +kernel
theorem d7_95 : decode prog_23_method_4_code 95 = .ok (.iastore, 1) := by decide +kernel
theorem d7_96 : decode prog_23_method_4_code 96 = .ok (.iload 4, 2) := by decide +kernel
theorem d7_98 : decode prog_23_method_4_code 98 = .ok (.istore_n 2, 1) := by decide +kernel
theorem d7_99 : decode prog_23_method_4_code 99 = .ok (.aload_n 0, 1) := by decide +kernel
theorem d7_100 : decode prog_23_method_4_code 100 = .ok (.getfield 25, 3) := by decide +kernel
theorem d7_103 : decode prog_23_method_4_code 103 = .ok (.iload_n 3, 1) := by decide +kernel
theorem d7_104 : decode prog_23_method_4_code 104 = .ok (.aconst_null, 1) := by decide +kernel
theorem d7_105 : decode prog_23_method_4_code 105 = .ok (.aastore, 1) := by decide +kernel
theorem d7_106 : decode prog_23_method_4_code 106 = .ok (.aload_n 0, 1) := by decide +kernel
theorem d7_107 : decode prog_23_method_4_code 107 = .ok (.getfield 29, 3) := by decide +kernel
theorem d7_110 : decode prog_23_method_4_code 110 = .ok (.iload_n 3, 1) := by decide +kernel
theorem d7_111 : decode prog_23_method_4_code 111 = .ok (.iconst 0, 1) := by decide +kernel
theorem d7_112 : decode prog_23_method_4_code 112 = .ok (.iastore, 1) := by decide +kernel
theorem d7_113 : decode prog_23_method_4_code 113 = .ok (.iinc 3 1, 3) := by decide +kernel
theorem d7_116 : decode prog_23_method_4_code 116 = .ok (.goto (-112), 3) := by decide +kernel
theorem d7_119 : decode prog_23_method_4_code 119 = .ok (.aload_n 0, 1) := by decide +kernel
theorem d7_120 : decode prog_23_method_4_code 120 = .ok (.iload_n 1, 1) := by decide +kernel
theorem d7_121 : decode prog_23_method_4_code 121 = .ok (.putfield 7, 3) := by decide +kernel
theorem d7_124 : decode prog_23_method_4_code 124 = .ok (.return_, 1) := by decide +kernel
theorem ef_7_1 (m : MethodId) (x0 : Addr) : entryFrame m #[(.ref x0), (.int (1 : Int32))] 8 = mkF m 0 #[.val (.ref x0), .val (.int (1 : Int32)), .unset, .unset, .unset, .unset, .unset, .unset] [] := by first | (simp [entryFrame, mkF, argsToLocals, Value.category]; done) | rfl
def Q7_1 (Z : State) (a1 : Addr) (bi bf bp bc bn : Addr) (ki kf kp kc kn : ClassId) (IL FL PL : List Int32) (s0 s1 s2 : Addr) (q0 q1 q2 : ClassId) (x0_ x1_ x2_ x3_ y1_ y2_ y3_ z0_ z1_ z2_ z3_ : Int32) (h0 : Heap) (n0 : Nat) (v : Option Value) (h : Heap) (L : List Loc) : Prop := own_QT1 Z a1 bi bf bp bc bn ki kf kp kc kn IL FL PL s0 s1 s2 q0 q1 q2 x0_ x1_ x2_ x3_ y1_ y2_ y3_ z0_ z1_ z2_ z3_ h0 n0 v h L
theorem rm7_1 (l : Launch) (Z : State) (a0 : Array Value) (hw : ∀ d ∈ tables_1, d.before a0 Z = true) (ws : List Jvm.Cond) (a1 : Addr) (bi bf bp bc bn : Addr) (ki kf kp kc kn : ClassId) (IL FL PL : List Int32) (s0 s1 s2 : Addr) (q0 q1 q2 : ClassId) (x0_ x1_ x2_ x3_ y1_ y2_ y3_ z0_ z1_ z2_ z3_ : Int32) (h0 : Heap) (n0 : Nat) (Z0 : n0 ≤ h0.size) (E_a1 : Exa Z h0 a1 "com/example/tidemine/tidemine/PatternTrie") (F_size : Fld Z h0 a1 "com/example/tidemine/tidemine/PatternTrie" "size" "I" (.int (7 : Int32))) (F_items : Fld Z h0 a1 "com/example/tidemine/tidemine/PatternTrie" "items" "[I" (.ref bi)) (V_bi : Arv Z h0 bi ki .int (16 : Int32) (own_bs IL) (.int (0 : Int32))) (F_sameEvents : Fld Z h0 a1 "com/example/tidemine/tidemine/PatternTrie" "sameEvents" "[Z" (.ref bf)) (V_bf : Arv Z h0 bf kf .boolean (16 : Int32) (own_bs FL) (.int (0 : Int32))) (F_parents : Fld Z h0 a1 "com/example/tidemine/tidemine/PatternTrie" "parents" "[I" (.ref bp)) (V_bp : Arv Z h0 bp kp .int (16 : Int32) (own_bs PL) (.int (0 : Int32))) (F_children : Fld Z h0 a1 "com/example/tidemine/tidemine/PatternTrie" "children" "[[I" (.ref bc)) (V_bc : Arv Z h0 bc kc (.array .int) (16 : Int32) [(.ref s0), (.ref s1), (.ref s2), .null, .null, .null, .null, .null, .null, .null, .null, .null, .null, .null, .null, .null] .null) (F_childCounts : Fld Z h0 a1 "com/example/tidemine/tidemine/PatternTrie" "childCounts" "[I" (.ref bn)) (V_bn : Arv Z h0 bn kn .int (16 : Int32) (own_bs [3, 1, 2, 0, 0, 0, 0, 0, 0, 0, 0, 0, 0, 0, 0, 0]) (.int (0 : Int32))) (V_s0 : Arv Z h0 s0 q0 .int (4 : Int32) (own_bs [x0_, x1_, x2_, x3_]) (.int (0 : Int32))) (E_s0 : Exa Z h0 s0 "[I") (V_s1 : Arv Z h0 s1 q1 .int (4 : Int32) (own_bs [3, y1_, y2_, y3_]) (.int (0 : Int32))) (E_s1 : Exa Z h0 s1 "[I") (V_s2 : Arv Z h0 s2 q2 .int (4 : Int32) (own_bs [z0_, z1_, z2_, z3_]) (.int (0 : Int32))) (E_s2 : Exa Z h0 s2 "[I") (hpr1 : PL.getD 1 0 = (0 : Int32)) (hpr2 : PL.getD 2 0 = (0 : Int32)) (hpr3 : PL.getD 3 0 = (1 : Int32)) (hpr4 : PL.getD 4 0 = (0 : Int32)) (hpr5 : PL.getD 5 0 = (2 : Int32)) (hpr6 : PL.getD 6 0 = (2 : Int32)) (g_a1 : n0 ≤ a1) (g_bi : n0 ≤ bi) (g_bf : n0 ≤ bf) (g_bp : n0 ≤ bp) (g_bc : n0 ≤ bc) (g_bn : n0 ≤ bn) (g_s0 : n0 ≤ s0) (g_s1 : n0 ≤ s1) (g_s2 : n0 ≤ s2) (ne_a1_bi : a1 ≠ bi) (ne_a1_bf : a1 ≠ bf) (ne_a1_bp : a1 ≠ bp) (ne_a1_bc : a1 ≠ bc) (ne_a1_bn : a1 ≠ bn) (ne_a1_s0 : a1 ≠ s0) (ne_a1_s1 : a1 ≠ s1) (ne_a1_s2 : a1 ≠ s2) (ne_bi_bf : bi ≠ bf) (ne_bi_bp : bi ≠ bp) (ne_bi_bc : bi ≠ bc) (ne_bi_bn : bi ≠ bn) (ne_bi_s0 : bi ≠ s0) (ne_bi_s1 : bi ≠ s1) (ne_bi_s2 : bi ≠ s2) (ne_bf_bp : bf ≠ bp) (ne_bf_bc : bf ≠ bc) (ne_bf_bn : bf ≠ bn) (ne_bf_s0 : bf ≠ s0) (ne_bf_s1 : bf ≠ s1) (ne_bf_s2 : bf ≠ s2) (ne_bp_bc : bp ≠ bc) (ne_bp_bn : bp ≠ bn) (ne_bp_s0 : bp ≠ s0) (ne_bp_s1 : bp ≠ s1) (ne_bp_s2 : bp ≠ s2) (ne_bc_bn : bc ≠ bn) (ne_bc_s0 : bc ≠ s0) (ne_bc_s1 : bc ≠ s1) (ne_bc_s2 : bc ≠ s2) (ne_bn_s0 : bn ≠ s0) (ne_bn_s1 : bn ≠ s1) (ne_bn_s2 : bn ≠ s2) (ne_s0_s1 : s0 ≠ s1) (ne_s0_s2 : s0 ≠ s2) (ne_s1_s2 : s1 ≠ s2) (h_x0_ : ¬ (x0_ < (1 : Int32))) (h_x1_ : ¬ (x1_ < (1 : Int32))) (h_x2_ : ¬ (x2_ < (1 : Int32))) :
    MetFree l mn_4 (head1 (Jvm.Cond.code mn_4 prog_23_method_4_code 8 none :: ws) ({ frames := 0, cells := 0, slots := 0, locals := 0 } : Room)) (fun a U => a = #[(.ref a1), (.int (1 : Int32))] ∧ Z.Warmed39 U.vm ∧ U.heap = h0) (fun _ _ _ _ _ => True) (fun _ U o U' => ∃ v L, o = .returned v ∧ Q7_1 Z a1 bi bf bp bc bn ki kf kp kc kn IL FL PL s0 s1 s2 q0 q1 q2 x0_ x1_ x2_ x3_ y1_ y2_ y3_ z0_ z1_ z2_ z3_ h0 n0 v U'.heap L ∧ FrameEnd U o U' L ({ frames := 0, cells := 0, slots := 0, locals := 0 } : Room).cells ({ frames := 0, cells := 0, slots := 0, locals := 0 } : Room).slots) := by
  refine MetFree.of_bodySF (plainFor_of_name pn_2) hisR ?_
  intro p e s m args below meth c s₁ Bd hml0 hP hK
  obtain ⟨rfl, hZ, hh⟩ := hP
  have hx := Bd.exec
  have hby := Bd.bytes
  have hml : c.maxLocals = 8 := hml0
  have hown : s.vm.findClass "com/example/tidemine/tidemine/PatternTrie" = some m.cls := findClass_of_methodNamed Bd.named
  have hnm := (name_of_methodNamed Bd.named Bd.method).1
  have X0 : Stand p l e ({ frames := 0, cells := 0, slots := 0, locals := 0 } : Room) s m #[(.ref a1), (.int (1 : Int32))] below meth c s₁ [] 0 0 := Stand.of_body Bd
  have e0 : s₁.heap = h0 := by rw [← hh, Bd.state]; rfl
  have N0 := Fr.nil n0
  have K0 := Keep.refl h0 [a1, bc, bn, s0, s1, s2]
  have pre0 : ∀ t, Steps p.tables e below (s₁.setTop (mkF m 0 #[.val (.ref a1), .val (.int (1 : Int32)), .unset, .unset, .unset, .unset, .unset, .unset] [])) t → Steps p.tables e below (s₁.setTop (entryFrame m #[(.ref a1), (.int (1 : Int32))] 8)) t := fun t k => castTop (ef_7_1 m a1) k
  obtain ⟨T1, X1, e1, st1⟩ := gF X0 hx hZ hown (ww hw 10 rfl) e0 F_size (g := (mkF m 6 #[vR a1, vI 1, vI (-1), vI 1, .unset, .unset, .unset, .unset] [iR a1, iI 1])) rfl rfl (hb hby d7_6)
  obtain ⟨T2, X2, e2, st2⟩ := gF X1 hx hZ hown (ww hw 18 rfl) e1 F_parents (g := (mkF m 13 #[vR a1, vI 1, vI (-1), vI 1, .unset, .unset, .unset, .unset] [iR a1])) rfl rfl (hb hby d7_13)
  obtain ⟨cl3, Ar3, q3, S3, M3, H3, G3⟩ := id V_bp
  have hin4 := inb_of (j := (1 : Int32)) S3 ⟨by decide, by decide⟩
  have hat5 : cl3.slots[((1 : Int32)).toNatClampNeg]? = some (.int (0 : Int32)) := Has.at H3 hin4 (by rw [own_bsget]; exact congrArg Value.int hpr1)
  obtain ⟨T6, X6, e6, st6⟩ := gF X2 hx hZ hown (ww hw 22 rfl) e2 F_children (g := (mkF m 33 #[vR a1, vI 1, vI (-1), vI 1, vI 0, .unset, .unset, .unset] [iR a1])) rfl rfl (hb hby d7_33)
  obtain ⟨cl7, Ar7, q7, S7, M7, H7, G7⟩ := id V_bc
  have hin8 := inb_of (j := (0 : Int32)) S7 ⟨by decide, by decide⟩
  obtain ⟨T10, X10, e10, st10⟩ := gF X6 hx hZ hown (ww hw 24 rfl) e6 F_childCounts (g := (mkF m 50 #[vR a1, vI 1, vI (-1), vI 1, vI 0, vR s0, vI 0, vI 0] [iR a1, iI 0])) rfl rfl (hb hby d7_50)
  obtain ⟨cl11, Ar11, q11, S11, M11, H11, G11⟩ := id V_bn
  have hin12 := inb_of (j := (0 : Int32)) S11 ⟨by decide, by decide⟩
  obtain ⟨cl14, Ar14, q14, S14, M14, H14, G14⟩ := id V_s0
  have hin15 := inb_of (j := (0 : Int32)) S14 ⟨by decide, by decide⟩
  obtain ⟨T17, X17, e17, st17⟩ := gF X10 hx hZ hown (ww hw 24 rfl) e10 F_childCounts (g := (mkF m 50 #[vR a1, vI 1, vI (-1), vI 1, vI 0, vR s0, vI 0, vI 1] [iR a1, iI 1])) rfl rfl (hb hby d7_50)
  have hin18 := inb_of (j := (0 : Int32)) S11 ⟨by decide, by decide⟩
  have hin20 := inb_of (j := (1 : Int32)) S14 ⟨by decide, by decide⟩
  obtain ⟨T22, X22, e22, st22⟩ := gF X17 hx hZ hown (ww hw 24 rfl) e17 F_childCounts (g := (mkF m 50 #[vR a1, vI 1, vI (-1), vI 1, vI 0, vR s0, vI 0, vI 2] [iR a1, iI 2])) rfl rfl (hb hby d7_50)
  have hin23 := inb_of (j := (0 : Int32)) S11 ⟨by decide, by decide⟩
  have hin25 := inb_of (j := (2 : Int32)) S14 ⟨by decide, by decide⟩
  obtain ⟨T27, X27, e27, st27⟩ := gF X22 hx hZ hown (ww hw 24 rfl) e22 F_childCounts (g := (mkF m 50 #[vR a1, vI 1, vI (-1), vI 1, vI 0, vR s0, vI 0, vI 3] [iR a1, iI 3])) rfl rfl (hb hby d7_50)
  have hin28 := inb_of (j := (0 : Int32)) S11 ⟨by decide, by decide⟩
  obtain ⟨T30, X30, e30, st30⟩ := gF X27 hx hZ hown (ww hw 24 rfl) e27 F_childCounts (g := (mkF m 88 #[vR a1, vI 1, vI (-1), vI 1, vI 0, vR s0, vI 0, vI 3] [iR a1])) rfl rfl (hb hby d7_88)
  have hin31 := inb_of (j := (0 : Int32)) S11 ⟨by decide, by decide⟩
  obtain ⟨T32, h32, X32, e32, W32, st32⟩ := stI X30 hx hZ e30 Ar11 (j := (0 : Int32)) hin31 (g := (mkF m 95 #[vR a1, vI 1, vI (-1), vI 1, vI 0, vR s0, vI 0, vI 3] [iI 0, iI 0, iR bn])) rfl rfl (hb hby d7_95)
  have V32 : Arv Z h32 bn kn .int (16 : Int32) (own_bs [0, 1, 2, 0, 0, 0, 0, 0, 0, 0, 0, 0, 0, 0, 0, 0]) (.int (0 : Int32)) := Arv.set Ar11 q11 S11 M11 H11 G11 rfl W32 0 rfl (Nat.le_of_ble_eq_true rfl)
  have K32 : Keep h0 h32 [a1, bc, bn, s0, s1, s2] := K0.wr W32 (Or.inl (List.mem_of_getElem? (i := 2) rfl))
  have N32 := Fr.snoc X32 N0 g_bn
  have fk33 := (F_children.other W32 (Or.inl ne_a1_bn))
  obtain ⟨T34, X34, e34, st34⟩ := gF X32 hx hZ hown (ww hw 22 rfl) e32 fk33 (g := (mkF m 100 #[vR a1, vI 1, vI 0, vI 1, vI 0, vR s0, vI 0, vI 3] [iR a1])) rfl rfl (hb hby d7_100)
  have fk35 := (V_bc.other W32 ne_bc_bn)
  obtain ⟨cl36, Ar36, q36, S36, M36, H36, G36⟩ := id fk35
  have hin37 := inb_of (j := (1 : Int32)) S36 ⟨by decide, by decide⟩
  obtain ⟨T38, h38, X38, e38, W38, st38⟩ := stR X34 hx hZ e34 Ar36 (j := (1 : Int32)) (v := .null) hin37 rfl (Or.inl rfl) (g := (mkF m 105 #[vR a1, vI 1, vI 0, vI 1, vI 0, vR s0, vI 0, vI 3] [.null, iI 1, iR bc])) rfl rfl (hb hby d7_105)
  have V38 : Arv Z h38 bc kc (.array .int) (16 : Int32) [(.ref s0), .null, (.ref s2), .null, .null, .null, .null, .null, .null, .null, .null, .null, .null, .null, .null, .null] .null := Arv.set Ar36 q36 S36 M36 H36 G36 rfl W38 1 rfl (Nat.le_of_ble_eq_true rfl)
  have K38 : Keep h0 h38 [a1, bc, bn, s0, s1, s2] := K32.wr W38 (Or.inl (List.mem_of_getElem? (i := 1) rfl))
  have N38 := Fr.snoc X38 N32 g_bc
  have fk39 := ((F_childCounts.other W32 (Or.inl ne_a1_bn)).other W38 (Or.inl ne_a1_bc))
  obtain ⟨T40, X40, e40, st40⟩ := gF X38 hx hZ hown (ww hw 24 rfl) e38 fk39 (g := (mkF m 107 #[vR a1, vI 1, vI 0, vI 1, vI 0, vR s0, vI 0, vI 3] [iR a1])) rfl rfl (hb hby d7_107)
  have fk41 := (V32.other W38 (Ne.symm ne_bc_bn))
  obtain ⟨cl42, Ar42, q42, S42, M42, H42, G42⟩ := id fk41
  have hin43 := inb_of (j := (1 : Int32)) S42 ⟨by decide, by decide⟩
  obtain ⟨T44, h44, X44, e44, W44, st44⟩ := stI X40 hx hZ e40 Ar42 (j := (1 : Int32)) hin43 (g := (mkF m 112 #[vR a1, vI 1, vI 0, vI 1, vI 0, vR s0, vI 0, vI 3] [iI 0, iI 1, iR bn])) rfl rfl (hb hby d7_112)
  have V44 : Arv Z h44 bn kn .int (16 : Int32) (own_bs [0, 0, 2, 0, 0, 0, 0, 0, 0, 0, 0, 0, 0, 0, 0, 0]) (.int (0 : Int32)) := Arv.set Ar42 q42 S42 M42 H42 G42 rfl W44 1 rfl (Nat.le_of_ble_eq_true rfl)
  have K44 : Keep h0 h44 [a1, bc, bn, s0, s1, s2] := K38.wr W44 (Or.inl (List.mem_of_getElem? (i := 2) rfl))
  have N44 := Fr.snoc X44 N38 g_bn
  have fk45 := (((F_size.other W32 (Or.inl ne_a1_bn)).other W38 (Or.inl ne_a1_bc)).other W44 (Or.inl ne_a1_bn))
  obtain ⟨T46, X46, e46, st46⟩ := gF X44 hx hZ hown (ww hw 10 rfl) e44 fk45 (g := (mkF m 6 #[vR a1, vI 1, vI 0, vI 2, vI 0, vR s0, vI 0, vI 3] [iR a1, iI 2])) rfl rfl (hb hby d7_6)
  have fk47 := (((F_parents.other W32 (Or.inl ne_a1_bn)).other W38 (Or.inl ne_a1_bc)).other W44 (Or.inl ne_a1_bn))
  obtain ⟨T48, X48, e48, st48⟩ := gF X46 hx hZ hown (ww hw 18 rfl) e46 fk47 (g := (mkF m 13 #[vR a1, vI 1, vI 0, vI 2, vI 0, vR s0, vI 0, vI 3] [iR a1])) rfl rfl (hb hby d7_13)
  have fk49 := (((V_bp.other W32 ne_bp_bn).other W38 ne_bp_bc).other W44 ne_bp_bn)
  obtain ⟨cl50, Ar50, q50, S50, M50, H50, G50⟩ := id fk49
  have hin51 := inb_of (j := (2 : Int32)) S50 ⟨by decide, by decide⟩
  have hat52 : cl50.slots[((2 : Int32)).toNatClampNeg]? = some (.int (0 : Int32)) := Has.at H50 hin51 (by rw [own_bsget]; exact congrArg Value.int hpr2)
  have fk53 := ((fk33.other W38 (Or.inl ne_a1_bc)).other W44 (Or.inl ne_a1_bn))
  obtain ⟨T54, X54, e54, st54⟩ := gF X48 hx hZ hown (ww hw 22 rfl) e48 fk53 (g := (mkF m 100 #[vR a1, vI 1, vI 0, vI 2, vI 0, vR s0, vI 0, vI 3] [iR a1])) rfl rfl (hb hby d7_100)
  have fk55 := (V38.other W44 ne_bc_bn)
  obtain ⟨cl56, Ar56, q56, S56, M56, H56, G56⟩ := id fk55
  have hin57 := inb_of (j := (2 : Int32)) S56 ⟨by decide, by decide⟩
  obtain ⟨T58, h58, X58, e58, W58, st58⟩ := stR X54 hx hZ e54 Ar56 (j := (2 : Int32)) (v := .null) hin57 rfl (Or.inl rfl) (g := (mkF m 105 #[vR a1, vI 1, vI 0, vI 2, vI 0, vR s0, vI 0, vI 3] [.null, iI 2, iR bc])) rfl rfl (hb hby d7_105)
  have V58 : Arv Z h58 bc kc (.array .int) (16 : Int32) [(.ref s0), .null, .null, .null, .null, .null, .null, .null, .null, .null, .null, .null, .null, .null, .null, .null] .null := Arv.set Ar56 q56 S56 M56 H56 G56 rfl W58 2 rfl (Nat.le_of_ble_eq_true rfl)
  have K58 : Keep h0 h58 [a1, bc, bn, s0, s1, s2] := K44.wr W58 (Or.inl (List.mem_of_getElem? (i := 1) rfl))
  have N58 := Fr.snoc X58 N44 g_bc
  have fk59 := ((fk39.other W44 (Or.inl ne_a1_bn)).other W58 (Or.inl ne_a1_bc))
  obtain ⟨T60, X60, e60, st60⟩ := gF X58 hx hZ hown (ww hw 24 rfl) e58 fk59 (g := (mkF m 107 #[vR a1, vI 1, vI 0, vI 2, vI 0, vR s0, vI 0, vI 3] [iR a1])) rfl rfl (hb hby d7_107)
  have fk61 := (V44.other W58 (Ne.symm ne_bc_bn))
  obtain ⟨cl62, Ar62, q62, S62, M62, H62, G62⟩ := id fk61
  have hin63 := inb_of (j := (2 : Int32)) S62 ⟨by decide, by decide⟩
  obtain ⟨T64, h64, X64, e64, W64, st64⟩ := stI X60 hx hZ e60 Ar62 (j := (2 : Int32)) hin63 (g := (mkF m 112 #[vR a1, vI 1, vI 0, vI 2, vI 0, vR s0, vI 0, vI 3] [iI 0, iI 2, iR bn])) rfl rfl (hb hby d7_112)
  have V64 : Arv Z h64 bn kn .int (16 : Int32) (own_bs [0, 0, 0, 0, 0, 0, 0, 0, 0, 0, 0, 0, 0, 0, 0, 0]) (.int (0 : Int32)) := Arv.set Ar62 q62 S62 M62 H62 G62 rfl W64 2 rfl (Nat.le_of_ble_eq_true rfl)
  have K64 : Keep h0 h64 [a1, bc, bn, s0, s1, s2] := K58.wr W64 (Or.inl (List.mem_of_getElem? (i := 2) rfl))
  have N64 := Fr.snoc X64 N58 g_bn
  have fk65 := ((fk45.other W58 (Or.inl ne_a1_bc)).other W64 (Or.inl ne_a1_bn))
  obtain ⟨T66, X66, e66, st66⟩ := gF X64 hx hZ hown (ww hw 10 rfl) e64 fk65 (g := (mkF m 6 #[vR a1, vI 1, vI 0, vI 3, vI 0, vR s0, vI 0, vI 3] [iR a1, iI 3])) rfl rfl (hb hby d7_6)
  have fk67 := ((fk47.other W58 (Or.inl ne_a1_bc)).other W64 (Or.inl ne_a1_bn))
  obtain ⟨T68, X68, e68, st68⟩ := gF X66 hx hZ hown (ww hw 18 rfl) e66 fk67 (g := (mkF m 13 #[vR a1, vI 1, vI 0, vI 3, vI 0, vR s0, vI 0, vI 3] [iR a1])) rfl rfl (hb hby d7_13)
  have fk69 := ((fk49.other W58 ne_bp_bc).other W64 ne_bp_bn)
  obtain ⟨cl70, Ar70, q70, S70, M70, H70, G70⟩ := id fk69
  have hin71 := inb_of (j := (3 : Int32)) S70 ⟨by decide, by decide⟩
  have hat72 : cl70.slots[((3 : Int32)).toNatClampNeg]? = some (.int (1 : Int32)) := Has.at H70 hin71 (by rw [own_bsget]; exact congrArg Value.int hpr3)
  have fk73 := ((fk53.other W58 (Or.inl ne_a1_bc)).other W64 (Or.inl ne_a1_bn))
  obtain ⟨T74, X74, e74, st74⟩ := gF X68 hx hZ hown (ww hw 22 rfl) e68 fk73 (g := (mkF m 100 #[vR a1, vI 1, vI 0, vI 3, vI 1, vR s0, vI 0, vI 3] [iR a1])) rfl rfl (hb hby d7_100)
  have fk75 := (V58.other W64 ne_bc_bn)
  obtain ⟨cl76, Ar76, q76, S76, M76, H76, G76⟩ := id fk75
  have hin77 := inb_of (j := (3 : Int32)) S76 ⟨by decide, by decide⟩
  obtain ⟨T78, h78, X78, e78, W78, st78⟩ := stR X74 hx hZ e74 Ar76 (j := (3 : Int32)) (v := .null) hin77 rfl (Or.inl rfl) (g := (mkF m 105 #[vR a1, vI 1, vI 0, vI 3, vI 1, vR s0, vI 0, vI 3] [.null, iI 3, iR bc])) rfl rfl (hb hby d7_105)
  have V78 : Arv Z h78 bc kc (.array .int) (16 : Int32) [(.ref s0), .null, .null, .null, .null, .null, .null, .null, .null, .null, .null, .null, .null, .null, .null, .null] .null := Arv.set Ar76 q76 S76 M76 H76 G76 rfl W78 3 rfl (Nat.le_of_ble_eq_true rfl)
  have K78 : Keep h0 h78 [a1, bc, bn, s0, s1, s2] := K64.wr W78 (Or.inl (List.mem_of_getElem? (i := 1) rfl))
  have N78 := Fr.snoc X78 N64 g_bc
  have fk79 := ((fk59.other W64 (Or.inl ne_a1_bn)).other W78 (Or.inl ne_a1_bc))
  obtain ⟨T80, X80, e80, st80⟩ := gF X78 hx hZ hown (ww hw 24 rfl) e78 fk79 (g := (mkF m 107 #[vR a1, vI 1, vI 0, vI 3, vI 1, vR s0, vI 0, vI 3] [iR a1])) rfl rfl (hb hby d7_107)
  have fk81 := (V64.other W78 (Ne.symm ne_bc_bn))
  obtain ⟨cl82, Ar82, q82, S82, M82, H82, G82⟩ := id fk81
  have hin83 := inb_of (j := (3 : Int32)) S82 ⟨by decide, by decide⟩
  obtain ⟨T84, h84, X84, e84, W84, st84⟩ := stI X80 hx hZ e80 Ar82 (j := (3 : Int32)) hin83 (g := (mkF m 112 #[vR a1, vI 1, vI 0, vI 3, vI 1, vR s0, vI 0, vI 3] [iI 0, iI 3, iR bn])) rfl rfl (hb hby d7_112)
  have V84 : Arv Z h84 bn kn .int (16 : Int32) (own_bs [0, 0, 0, 0, 0, 0, 0, 0, 0, 0, 0, 0, 0, 0, 0, 0]) (.int (0 : Int32)) := Arv.set Ar82 q82 S82 M82 H82 G82 rfl W84 3 rfl (Nat.le_of_ble_eq_true rfl)
  have K84 : Keep h0 h84 [a1, bc, bn, s0, s1, s2] := K78.wr W84 (Or.inl (List.mem_of_getElem? (i := 2) rfl))
  have N84 := Fr.snoc X84 N78 g_bn
  have fk85 := ((fk65.other W78 (Or.inl ne_a1_bc)).other W84 (Or.inl ne_a1_bn))
  obtain ⟨T86, X86, e86, st86⟩ := gF X84 hx hZ hown (ww hw 10 rfl) e84 fk85 (g := (mkF m 6 #[vR a1, vI 1, vI 0, vI 4, vI 1, vR s0, vI 0, vI 3] [iR a1, iI 4])) rfl rfl (hb hby d7_6)
  have fk87 := ((fk67.other W78 (Or.inl ne_a1_bc)).other W84 (Or.inl ne_a1_bn))
  obtain ⟨T88, X88, e88, st88⟩ := gF X86 hx hZ hown (ww hw 18 rfl) e86 fk87 (g := (mkF m 13 #[vR a1, vI 1, vI 0, vI 4, vI 1, vR s0, vI 0, vI 3] [iR a1])) rfl rfl (hb hby d7_13)
  have fk89 := ((fk69.other W78 ne_bp_bc).other W84 ne_bp_bn)
  obtain ⟨cl90, Ar90, q90, S90, M90, H90, G90⟩ := id fk89
  have hin91 := inb_of (j := (4 : Int32)) S90 ⟨by decide, by decide⟩
  have hat92 : cl90.slots[((4 : Int32)).toNatClampNeg]? = some (.int (0 : Int32)) := Has.at H90 hin91 (by rw [own_bsget]; exact congrArg Value.int hpr4)
  have fk93 := ((fk73.other W78 (Or.inl ne_a1_bc)).other W84 (Or.inl ne_a1_bn))
  obtain ⟨T94, X94, e94, st94⟩ := gF X88 hx hZ hown (ww hw 22 rfl) e88 fk93 (g := (mkF m 100 #[vR a1, vI 1, vI 0, vI 4, vI 0, vR s0, vI 0, vI 3] [iR a1])) rfl rfl (hb hby d7_100)
  have fk95 := (V78.other W84 ne_bc_bn)
  obtain ⟨cl96, Ar96, q96, S96, M96, H96, G96⟩ := id fk95
  have hin97 := inb_of (j := (4 : Int32)) S96 ⟨by decide, by decide⟩
  obtain ⟨T98, h98, X98, e98, W98, st98⟩ := stR X94 hx hZ e94 Ar96 (j := (4 : Int32)) (v := .null) hin97 rfl (Or.inl rfl) (g := (mkF m 105 #[vR a1, vI 1, vI 0, vI 4, vI 0, vR s0, vI 0, vI 3] [.null, iI 4, iR bc])) rfl rfl (hb hby d7_105)
  have V98 : Arv Z h98 bc kc (.array .int) (16 : Int32) [(.ref s0), .null, .null, .null, .null, .null, .null, .null, .null, .null, .null, .null, .null, .null, .null, .null] .null := Arv.set Ar96 q96 S96 M96 H96 G96 rfl W98 4 rfl (Nat.le_of_ble_eq_true rfl)
  have K98 : Keep h0 h98 [a1, bc, bn, s0, s1, s2] := K84.wr W98 (Or.inl (List.mem_of_getElem? (i := 1) rfl))
  have N98 := Fr.snoc X98 N84 g_bc
  have fk99 := ((fk79.other W84 (Or.inl ne_a1_bn)).other W98 (Or.inl ne_a1_bc))
  obtain ⟨T100, X100, e100, st100⟩ := gF X98 hx hZ hown (ww hw 24 rfl) e98 fk99 (g := (mkF m 107 #[vR a1, vI 1, vI 0, vI 4, vI 0, vR s0, vI 0, vI 3] [iR a1])) rfl rfl (hb hby d7_107)
  have fk101 := (V84.other W98 (Ne.symm ne_bc_bn))
  obtain ⟨cl102, Ar102, q102, S102, M102, H102, G102⟩ := id fk101
  have hin103 := inb_of (j := (4 : Int32)) S102 ⟨by decide, by decide⟩
  obtain ⟨T104, h104, X104, e104, W104, st104⟩ := stI X100 hx hZ e100 Ar102 (j := (4 : Int32)) hin103 (g := (mkF m 112 #[vR a1, vI 1, vI 0, vI 4, vI 0, vR s0, vI 0, vI 3] [iI 0, iI 4, iR bn])) rfl rfl (hb hby d7_112)
  have V104 : Arv Z h104 bn kn .int (16 : Int32) (own_bs [0, 0, 0, 0, 0, 0, 0, 0, 0, 0, 0, 0, 0, 0, 0, 0]) (.int (0 : Int32)) := Arv.set Ar102 q102 S102 M102 H102 G102 rfl W104 4 rfl (Nat.le_of_ble_eq_true rfl)
  have K104 : Keep h0 h104 [a1, bc, bn, s0, s1, s2] := K98.wr W104 (Or.inl (List.mem_of_getElem? (i := 2) rfl))
  have N104 := Fr.snoc X104 N98 g_bn
  have fk105 := ((fk85.other W98 (Or.inl ne_a1_bc)).other W104 (Or.inl ne_a1_bn))
  obtain ⟨T106, X106, e106, st106⟩ := gF X104 hx hZ hown (ww hw 10 rfl) e104 fk105 (g := (mkF m 6 #[vR a1, vI 1, vI 0, vI 5, vI 0, vR s0, vI 0, vI 3] [iR a1, iI 5])) rfl rfl (hb hby d7_6)
  have fk107 := ((fk87.other W98 (Or.inl ne_a1_bc)).other W104 (Or.inl ne_a1_bn))
  obtain ⟨T108, X108, e108, st108⟩ := gF X106 hx hZ hown (ww hw 18 rfl) e106 fk107 (g := (mkF m 13 #[vR a1, vI 1, vI 0, vI 5, vI 0, vR s0, vI 0, vI 3] [iR a1])) rfl rfl (hb hby d7_13)
  have fk109 := ((fk89.other W98 ne_bp_bc).other W104 ne_bp_bn)
  obtain ⟨cl110, Ar110, q110, S110, M110, H110, G110⟩ := id fk109
  have hin111 := inb_of (j := (5 : Int32)) S110 ⟨by decide, by decide⟩
  have hat112 : cl110.slots[((5 : Int32)).toNatClampNeg]? = some (.int (2 : Int32)) := Has.at H110 hin111 (by rw [own_bsget]; exact congrArg Value.int hpr5)
  have fk113 := ((fk93.other W98 (Or.inl ne_a1_bc)).other W104 (Or.inl ne_a1_bn))
  obtain ⟨T114, X114, e114, st114⟩ := gF X108 hx hZ hown (ww hw 22 rfl) e108 fk113 (g := (mkF m 100 #[vR a1, vI 1, vI 0, vI 5, vI 2, vR s0, vI 0, vI 3] [iR a1])) rfl rfl (hb hby d7_100)
  have fk115 := (V98.other W104 ne_bc_bn)
  obtain ⟨cl116, Ar116, q116, S116, M116, H116, G116⟩ := id fk115
  have hin117 := inb_of (j := (5 : Int32)) S116 ⟨by decide, by decide⟩
  obtain ⟨T118, h118, X118, e118, W118, st118⟩ := stR X114 hx hZ e114 Ar116 (j := (5 : Int32)) (v := .null) hin117 rfl (Or.inl rfl) (g := (mkF m 105 #[vR a1, vI 1, vI 0, vI 5, vI 2, vR s0, vI 0, vI 3] [.null, iI 5, iR bc])) rfl rfl (hb hby d7_105)
  have V118 : Arv Z h118 bc kc (.array .int) (16 : Int32) [(.ref s0), .null, .null, .null, .null, .null, .null, .null, .null, .null, .null, .null, .null, .null, .null, .null] .null := Arv.set Ar116 q116 S116 M116 H116 G116 rfl W118 5 rfl (Nat.le_of_ble_eq_true rfl)
  have K118 : Keep h0 h118 [a1, bc, bn, s0, s1, s2] := K104.wr W118 (Or.inl (List.mem_of_getElem? (i := 1) rfl))
  have N118 := Fr.snoc X118 N104 g_bc
  have fk119 := ((fk99.other W104 (Or.inl ne_a1_bn)).other W118 (Or.inl ne_a1_bc))
  obtain ⟨T120, X120, e120, st120⟩ := gF X118 hx hZ hown (ww hw 24 rfl) e118 fk119 (g := (mkF m 107 #[vR a1, vI 1, vI 0, vI 5, vI 2, vR s0, vI 0, vI 3] [iR a1])) rfl rfl (hb hby d7_107)
  have fk121 := (V104.other W118 (Ne.symm ne_bc_bn))
  obtain ⟨cl122, Ar122, q122, S122, M122, H122, G122⟩ := id fk121
  have hin123 := inb_of (j := (5 : Int32)) S122 ⟨by decide, by decide⟩
  obtain ⟨T124, h124, X124, e124, W124, st124⟩ := stI X120 hx hZ e120 Ar122 (j := (5 : Int32)) hin123 (g := (mkF m 112 #[vR a1, vI 1, vI 0, vI 5, vI 2, vR s0, vI 0, vI 3] [iI 0, iI 5, iR bn])) rfl rfl (hb hby d7_112)
  have V124 : Arv Z h124 bn kn .int (16 : Int32) (own_bs [0, 0, 0, 0, 0, 0, 0, 0, 0, 0, 0, 0, 0, 0, 0, 0]) (.int (0 : Int32)) := Arv.set Ar122 q122 S122 M122 H122 G122 rfl W124 5 rfl (Nat.le_of_ble_eq_true rfl)
  have K124 : Keep h0 h124 [a1, bc, bn, s0, s1, s2] := K118.wr W124 (Or.inl (List.mem_of_getElem? (i := 2) rfl))
  have N124 := Fr.snoc X124 N118 g_bn
  have fk125 := ((fk105.other W118 (Or.inl ne_a1_bc)).other W124 (Or.inl ne_a1_bn))
  obtain ⟨T126, X126, e126, st126⟩ := gF X124 hx hZ hown (ww hw 10 rfl) e124 fk125 (g := (mkF m 6 #[vR a1, vI 1, vI 0, vI 6, vI 2, vR s0, vI 0, vI 3] [iR a1, iI 6])) rfl rfl (hb hby d7_6)
  have fk127 := ((fk107.other W118 (Or.inl ne_a1_bc)).other W124 (Or.inl ne_a1_bn))
  obtain ⟨T128, X128, e128, st128⟩ := gF X126 hx hZ hown (ww hw 18 rfl) e126 fk127 (g := (mkF m 13 #[vR a1, vI 1, vI 0, vI 6, vI 2, vR s0, vI 0, vI 3] [iR a1])) rfl rfl (hb hby d7_13)
  have fk129 := ((fk109.other W118 ne_bp_bc).other W124 ne_bp_bn)
  obtain ⟨cl130, Ar130, q130, S130, M130, H130, G130⟩ := id fk129
  have hin131 := inb_of (j := (6 : Int32)) S130 ⟨by decide, by decide⟩
  have hat132 : cl130.slots[((6 : Int32)).toNatClampNeg]? = some (.int (2 : Int32)) := Has.at H130 hin131 (by rw [own_bsget]; exact congrArg Value.int hpr6)
  have fk133 := ((fk113.other W118 (Or.inl ne_a1_bc)).other W124 (Or.inl ne_a1_bn))
  obtain ⟨T134, X134, e134, st134⟩ := gF X128 hx hZ hown (ww hw 22 rfl) e128 fk133 (g := (mkF m 100 #[vR a1, vI 1, vI 0, vI 6, vI 2, vR s0, vI 0, vI 3] [iR a1])) rfl rfl (hb hby d7_100)
  have fk135 := (V118.other W124 ne_bc_bn)
  obtain ⟨cl136, Ar136, q136, S136, M136, H136, G136⟩ := id fk135
  have hin137 := inb_of (j := (6 : Int32)) S136 ⟨by decide, by decide⟩
  obtain ⟨T138, h138, X138, e138, W138, st138⟩ := stR X134 hx hZ e134 Ar136 (j := (6 : Int32)) (v := .null) hin137 rfl (Or.inl rfl) (g := (mkF m 105 #[vR a1, vI 1, vI 0, vI 6, vI 2, vR s0, vI 0, vI 3] [.null, iI 6, iR bc])) rfl rfl (hb hby d7_105)
  have V138 : Arv Z h138 bc kc (.array .int) (16 : Int32) [(.ref s0), .null, .null, .null, .null, .null, .null, .null, .null, .null, .null, .null, .null, .null, .null, .null] .null := Arv.set Ar136 q136 S136 M136 H136 G136 rfl W138 6 rfl (Nat.le_of_ble_eq_true rfl)
  have K138 : Keep h0 h138 [a1, bc, bn, s0, s1, s2] := K124.wr W138 (Or.inl (List.mem_of_getElem? (i := 1) rfl))
  have N138 := Fr.snoc X138 N124 g_bc
  have fk139 := ((fk119.other W124 (Or.inl ne_a1_bn)).other W138 (Or.inl ne_a1_bc))
  obtain ⟨T140, X140, e140, st140⟩ := gF X138 hx hZ hown (ww hw 24 rfl) e138 fk139 (g := (mkF m 107 #[vR a1, vI 1, vI 0, vI 6, vI 2, vR s0, vI 0, vI 3] [iR a1])) rfl rfl (hb hby d7_107)
  have fk141 := (V124.other W138 (Ne.symm ne_bc_bn))
  obtain ⟨cl142, Ar142, q142, S142, M142, H142, G142⟩ := id fk141
  have hin143 := inb_of (j := (6 : Int32)) S142 ⟨by decide, by decide⟩
  obtain ⟨T144, h144, X144, e144, W144, st144⟩ := stI X140 hx hZ e140 Ar142 (j := (6 : Int32)) hin143 (g := (mkF m 112 #[vR a1, vI 1, vI 0, vI 6, vI 2, vR s0, vI 0, vI 3] [iI 0, iI 6, iR bn])) rfl rfl (hb hby d7_112)
  have V144 : Arv Z h144 bn kn .int (16 : Int32) (own_bs [0, 0, 0, 0, 0, 0, 0, 0, 0, 0, 0, 0, 0, 0, 0, 0]) (.int (0 : Int32)) := Arv.set Ar142 q142 S142 M142 H142 G142 rfl W144 6 rfl (Nat.le_of_ble_eq_true rfl)
  have K144 : Keep h0 h144 [a1, bc, bn, s0, s1, s2] := K138.wr W144 (Or.inl (List.mem_of_getElem? (i := 2) rfl))
  have N144 := Fr.snoc X144 N138 g_bn
  have fk145 := ((fk125.other W138 (Or.inl ne_a1_bc)).other W144 (Or.inl ne_a1_bn))
  obtain ⟨T146, X146, e146, st146⟩ := gF X144 hx hZ hown (ww hw 10 rfl) e144 fk145 (g := (mkF m 6 #[vR a1, vI 1, vI 0, vI 7, vI 2, vR s0, vI 0, vI 3] [iR a1, iI 7])) rfl rfl (hb hby d7_6)
  have fk147 := (((((((((((((E_a1.wr W32).wr W38).wr W44).wr W58).wr W64).wr W78).wr W84).wr W98).wr W104).wr W118).wr W124).wr W138).wr W144)
  obtain ⟨T148, h148, X148, e148, W148, st148⟩ := putF X146 hx hZ hown (host := "") (Or.inl (ww hw 10 rfl)) Via.refl e146 fk145 fk147 (Or.inl (ww hw 11 rfl)) (ww hw 2 rfl) (ty := .int) (by decide) rfl rfl (g := (mkF m 121 #[vR a1, vI 1, vI 0, vI 7, vI 2, vR s0, vI 0, vI 3] [iI 1, iR a1])) rfl rfl (hb hby d7_121)
  have Fw148 := fk145.same W148
  have K148 : Keep h0 h148 [a1, bc, bn, s0, s1, s2] := K144.wr W148 (Or.inl (List.mem_of_getElem? (i := 0) rfl))
  have N148 := Fr.snoc X148 N144 g_a1
  obtain ⟨fs, hr, hrun, hended, hW, hsame⟩ := X148.leave (v := none) (fun _ => rfl)
  have fk149 := (fk147.wr W148)
  have fk150 := ((((((((((((((F_items.other W32 (Or.inl ne_a1_bn)).other W38 (Or.inl ne_a1_bc)).other W44 (Or.inl ne_a1_bn)).other W58 (Or.inl ne_a1_bc)).other W64 (Or.inl ne_a1_bn)).other W78 (Or.inl ne_a1_bc)).other W84 (Or.inl ne_a1_bn)).other W98 (Or.inl ne_a1_bc)).other W104 (Or.inl ne_a1_bn)).other W118 (Or.inl ne_a1_bc)).other W124 (Or.inl ne_a1_bn)).other W138 (Or.inl ne_a1_bc)).other W144 (Or.inl ne_a1_bn)).other W148 (Or.inr (slot_ne (Or.inl (ww hw 14 rfl)) (Or.inl (ww hw 11 rfl)) (by decide) (t := (.array .int)) (t' := .int) (by decide) (by decide))))
  have fk151 := ((((((((((((((V_bi.other W32 ne_bi_bn).other W38 ne_bi_bc).other W44 ne_bi_bn).other W58 ne_bi_bc).other W64 ne_bi_bn).other W78 ne_bi_bc).other W84 ne_bi_bn).other W98 ne_bi_bc).other W104 ne_bi_bn).other W118 ne_bi_bc).other W124 ne_bi_bn).other W138 ne_bi_bc).other W144 ne_bi_bn).other W148 (Ne.symm ne_a1_bi))
  have fk152 := ((((((((((((((F_sameEvents.other W32 (Or.inl ne_a1_bn)).other W38 (Or.inl ne_a1_bc)).other W44 (Or.inl ne_a1_bn)).other W58 (Or.inl ne_a1_bc)).other W64 (Or.inl ne_a1_bn)).other W78 (Or.inl ne_a1_bc)).other W84 (Or.inl ne_a1_bn)).other W98 (Or.inl ne_a1_bc)).other W104 (Or.inl ne_a1_bn)).other W118 (Or.inl ne_a1_bc)).other W124 (Or.inl ne_a1_bn)).other W138 (Or.inl ne_a1_bc)).other W144 (Or.inl ne_a1_bn)).other W148 (Or.inr (slot_ne (Or.inl (ww hw 17 rfl)) (Or.inl (ww hw 11 rfl)) (by decide) (t := (.array .boolean)) (t' := .int) (by decide) (by decide))))
  have fk153 := ((((((((((((((V_bf.other W32 ne_bf_bn).other W38 ne_bf_bc).other W44 ne_bf_bn).other W58 ne_bf_bc).other W64 ne_bf_bn).other W78 ne_bf_bc).other W84 ne_bf_bn).other W98 ne_bf_bc).other W104 ne_bf_bn).other W118 ne_bf_bc).other W124 ne_bf_bn).other W138 ne_bf_bc).other W144 ne_bf_bn).other W148 (Ne.symm ne_a1_bf))
  have fk154 := (((fk127.other W138 (Or.inl ne_a1_bc)).other W144 (Or.inl ne_a1_bn)).other W148 (Or.inr (slot_ne (Or.inl (ww hw 19 rfl)) (Or.inl (ww hw 11 rfl)) (by decide) (t := (.array .int)) (t' := .int) (by decide) (by decide))))
  have fk155 := (((fk129.other W138 ne_bp_bc).other W144 ne_bp_bn).other W148 (Ne.symm ne_a1_bp))
  have fk156 := (((fk133.other W138 (Or.inl ne_a1_bc)).other W144 (Or.inl ne_a1_bn)).other W148 (Or.inr (slot_ne (Or.inl (ww hw 23 rfl)) (Or.inl (ww hw 11 rfl)) (by decide) (t := (.array (.array .int))) (t' := .int) (by decide) (by decide))))
  have fk157 := ((V138.other W144 ne_bc_bn).other W148 (Ne.symm ne_a1_bc))
  have fk158 := ((fk139.other W144 (Or.inl ne_a1_bn)).other W148 (Or.inr (slot_ne (Or.inl (ww hw 25 rfl)) (Or.inl (ww hw 11 rfl)) (by decide) (t := (.array .int)) (t' := .int) (by decide) (by decide))))
  have fk159 := (V144.other W148 (Ne.symm ne_a1_bn))
  have fk160 := ((((((((((((((V_s0.other W32 (Ne.symm ne_bn_s0)).other W38 (Ne.symm ne_bc_s0)).other W44 (Ne.symm ne_bn_s0)).other W58 (Ne.symm ne_bc_s0)).other W64 (Ne.symm ne_bn_s0)).other W78 (Ne.symm ne_bc_s0)).other W84 (Ne.symm ne_bn_s0)).other W98 (Ne.symm ne_bc_s0)).other W104 (Ne.symm ne_bn_s0)).other W118 (Ne.symm ne_bc_s0)).other W124 (Ne.symm ne_bn_s0)).other W138 (Ne.symm ne_bc_s0)).other W144 (Ne.symm ne_bn_s0)).other W148 (Ne.symm ne_a1_s0))
  have fk161 := ((((((((((((((E_s0.wr W32).wr W38).wr W44).wr W58).wr W64).wr W78).wr W84).wr W98).wr W104).wr W118).wr W124).wr W138).wr W144).wr W148)
  have fk162 := ((((((((((((((V_s1.other W32 (Ne.symm ne_bn_s1)).other W38 (Ne.symm ne_bc_s1)).other W44 (Ne.symm ne_bn_s1)).other W58 (Ne.symm ne_bc_s1)).other W64 (Ne.symm ne_bn_s1)).other W78 (Ne.symm ne_bc_s1)).other W84 (Ne.symm ne_bn_s1)).other W98 (Ne.symm ne_bc_s1)).other W104 (Ne.symm ne_bn_s1)).other W118 (Ne.symm ne_bc_s1)).other W124 (Ne.symm ne_bn_s1)).other W138 (Ne.symm ne_bc_s1)).other W144 (Ne.symm ne_bn_s1)).other W148 (Ne.symm ne_a1_s1))
  have fk163 := ((((((((((((((E_s1.wr W32).wr W38).wr W44).wr W58).wr W64).wr W78).wr W84).wr W98).wr W104).wr W118).wr W124).wr W138).wr W144).wr W148)
  have fk164 := ((((((((((((((V_s2.other W32 (Ne.symm ne_bn_s2)).other W38 (Ne.symm ne_bc_s2)).other W44 (Ne.symm ne_bn_s2)).other W58 (Ne.symm ne_bc_s2)).other W64 (Ne.symm ne_bn_s2)).other W78 (Ne.symm ne_bc_s2)).other W84 (Ne.symm ne_bn_s2)).other W98 (Ne.symm ne_bc_s2)).other W104 (Ne.symm ne_bn_s2)).other W118 (Ne.symm ne_bc_s2)).other W124 (Ne.symm ne_bn_s2)).other W138 (Ne.symm ne_bc_s2)).other W144 (Ne.symm ne_bn_s2)).other W148 (Ne.symm ne_a1_s2))
  have fk165 := ((((((((((((((E_s2.wr W32).wr W38).wr W44).wr W58).wr W64).wr W78).wr W84).wr W98).wr W104).wr W118).wr W124).wr W138).wr W144).wr W148)
  refine ⟨_, _, pre0 _ ?_, hrun, hended, _, _, rfl, ?_, ⟨_, rfl⟩, hW, hsame.mono (by decide) (by decide)⟩
  · refine XS.iconst X0.here hx rfl (hb hby d7_0) ?_
    refine XS.istoreN X0.here hx rfl (hb hby d7_1) rfl (l' := #[vR a1, vI 1, vI (-1), .unset, .unset, .unset, .unset, .unset]) rfl ?_
    refine XS.iloadN X0.here hx rfl (hb hby d7_2) rfl ?_
    refine XS.istoreN X0.here hx rfl (hb hby d7_3) rfl (l' := #[vR a1, vI 1, vI (-1), vI 1, .unset, .unset, .unset, .unset]) rfl ?_
    refine XS.iloadN X0.here hx rfl (hb hby d7_4) rfl ?_
    refine XS.aloadN X0.here hx rfl (hb hby d7_5) rfl rfl ?_
    show SA s₁ m 6 #[vR a1, vI 1, vI (-1), vI 1, .unset, .unset, .unset, .unset] [iR a1, iI 1]
    refine st1 _ ?_
    refine XS.icmpNo X1.here hx rfl (hb hby d7_9) rfl (tlt (by decide : (1 : Int32) < (7 : Int32))).2.1 ?_
    refine XS.aloadN X1.here hx rfl (hb hby d7_12) rfl rfl ?_
    refine st2 _ ?_
    refine XS.iloadN X2.here hx rfl (hb hby d7_16) rfl ?_
    refine X2.iaload hx (j := (1 : Int32)) (v := (.int (0 : Int32))) (by rw [e2]; exact Ar3.1) (State.isArrayOf_alike hZ.alike Ar3.2.1) Ar3.2.2 hin4 hat5 (g := (mkF m 17 #[vR a1, vI 1, vI (-1), vI 1, .unset, .unset, .unset, .unset] [iI 1, iR bp])) rfl rfl (hb hby d7_17) _ ?_
    refine XS.istore X2.here hx rfl (hb hby d7_18) rfl (l' := #[vR a1, vI 1, vI (-1), vI 1, vI 0, .unset, .unset, .unset]) rfl ?_
    refine XS.iload X2.here hx rfl (hb hby d7_20) rfl ?_
    refine XS.iloadN X2.here hx rfl (hb hby d7_22) rfl ?_
    refine XS.icmpNo X2.here hx rfl (hb hby d7_23) rfl (tlt (by decide : (0 : Int32) < (1 : Int32))).2.1 ?_
    refine XS.iload X2.here hx rfl (hb hby d7_26) rfl ?_
    refine XS.iloadN X2.here hx rfl (hb hby d7_28) rfl ?_
    refine XS.icmpNo X2.here hx rfl (hb hby d7_29) rfl (feq (by decide : ¬ ((0 : Int32) = (-1 : Int32)))).1 ?_
    refine XS.aloadN X2.here hx rfl (hb hby d7_32) rfl rfl ?_
    show SA T2 m 33 #[vR a1, vI 1, vI (-1), vI 1, vI 0, .unset, .unset, .unset] [iR a1]
    refine st6 _ ?_
    refine XS.iload X6.here hx rfl (hb hby d7_36) rfl ?_
    refine X6.aaload hx (j := (0 : Int32)) (v := (.ref s0)) (by rw [e6]; exact Ar7.1) (State.isArrayOf_alike hZ.alike Ar7.2.1) rfl Ar7.2.2 hin8 (Has.at H7 hin8 rfl) (g := (mkF m 38 #[vR a1, vI 1, vI (-1), vI 1, vI 0, .unset, .unset, .unset] [iI 0, iR bc])) rfl rfl (hb hby d7_38) _ ?_
    refine XS.astore X6.here hx rfl (hb hby d7_39) rfl rfl (l' := #[vR a1, vI 1, vI (-1), vI 1, vI 0, vR s0, .unset, .unset]) rfl ?_
    refine XS.iconst X6.here hx rfl (hb hby d7_41) ?_
    refine XS.istore X6.here hx rfl (hb hby d7_42) rfl (l' := #[vR a1, vI 1, vI (-1), vI 1, vI 0, vR s0, vI 0, .unset]) rfl ?_
    refine XS.iconst X6.here hx rfl (hb hby d7_44) ?_
    refine XS.istore X6.here hx rfl (hb hby d7_45) rfl (l' := #[vR a1, vI 1, vI (-1), vI 1, vI 0, vR s0, vI 0, vI 0]) rfl ?_
    refine XS.iload X6.here hx rfl (hb hby d7_47) rfl ?_
    refine XS.aloadN X6.here hx rfl (hb hby d7_49) rfl rfl ?_
    refine st10 _ ?_
    refine XS.iload X10.here hx rfl (hb hby d7_53) rfl ?_
    refine X10.iaload hx (j := (0 : Int32)) (v := (.int (3 : Int32))) (by rw [e10]; exact Ar11.1) (State.isArrayOf_alike hZ.alike Ar11.2.1) Ar11.2.2 hin12 (Has.at H11 hin12 rfl) (g := (mkF m 55 #[vR a1, vI 1, vI (-1), vI 1, vI 0, vR s0, vI 0, vI 0] [iI 0, iR bn, iI 0])) rfl rfl (hb hby d7_55) _ ?_
    refine XS.icmpNo X10.here hx rfl (hb hby d7_56) rfl (tlt (by decide : (0 : Int32) < (3 : Int32))).2.1 ?_
    refine XS.aload X10.here hx rfl (hb hby d7_59) rfl rfl ?_
    refine XS.iload X10.here hx rfl (hb hby d7_61) rfl ?_
    refine X10.iaload hx (j := (0 : Int32)) (v := (.int x0_)) (by rw [e10]; exact Ar14.1) (State.isArrayOf_alike hZ.alike Ar14.2.1) Ar14.2.2 hin15 (Has.at H14 hin15 rfl) (g := (mkF m 63 #[vR a1, vI 1, vI (-1), vI 1, vI 0, vR s0, vI 0, vI 0] [iI 0, iR s0])) rfl rfl (hb hby d7_63) _ ?_
    refine XS.iloadN X10.here hx rfl (hb hby d7_64) rfl ?_
    refine XS.icmpYes X10.here hx rfl (pc0 := 65) (pc' := 81) rfl (hb hby d7_65) rfl (flt h_x0_).2.1 (by decide) (by decide) ?_
    refine XS.iinc X10.here hx rfl (hb hby d7_81) rfl (l' := #[vR a1, vI 1, vI (-1), vI 1, vI 0, vR s0, vI 0, vI ((0 : Int32) + (1 : Int32))]) rfl ?_
    rw [(by decide : ((0 : Int32) + (1 : Int32)) = (1 : Int32))]
    refine XS.goto X10.here hx rfl (pc0 := 84) (pc' := 47) rfl (hb hby d7_84) (by decide) (by decide) ?_
    refine XS.iload X10.here hx rfl (hb hby d7_47) rfl ?_
    refine XS.aloadN X10.here hx rfl (hb hby d7_49) rfl rfl ?_
    refine st17 _ ?_
    refine XS.iload X17.here hx rfl (hb hby d7_53) rfl ?_
    refine X17.iaload hx (j := (0 : Int32)) (v := (.int (3 : Int32))) (by rw [e17]; exact Ar11.1) (State.isArrayOf_alike hZ.alike Ar11.2.1) Ar11.2.2 hin18 (Has.at H11 hin18 rfl) (g := (mkF m 55 #[vR a1, vI 1, vI (-1), vI 1, vI 0, vR s0, vI 0, vI 1] [iI 0, iR bn, iI 1])) rfl rfl (hb hby d7_55) _ ?_
    refine XS.icmpNo X17.here hx rfl (hb hby d7_56) rfl (tlt (by decide : (1 : Int32) < (3 : Int32))).2.1 ?_
    refine XS.aload X17.here hx rfl (hb hby d7_59) rfl rfl ?_
    refine XS.iload X17.here hx rfl (hb hby d7_61) rfl ?_
    refine X17.iaload hx (j := (1 : Int32)) (v := (.int x1_)) (by rw [e17]; exact Ar14.1) (State.isArrayOf_alike hZ.alike Ar14.2.1) Ar14.2.2 hin20 (Has.at H14 hin20 rfl) (g := (mkF m 63 #[vR a1, vI 1, vI (-1), vI 1, vI 0, vR s0, vI 0, vI 1] [iI 1, iR s0])) rfl rfl (hb hby d7_63) _ ?_
    refine XS.iloadN X17.here hx rfl (hb hby d7_64) rfl ?_
    refine XS.icmpYes X17.here hx rfl (pc0 := 65) (pc' := 81) rfl (hb hby d7_65) rfl (flt h_x1_).2.1 (by decide) (by decide) ?_
    refine XS.iinc X17.here hx rfl (hb hby d7_81) rfl (l' := #[vR a1, vI 1, vI (-1), vI 1, vI 0, vR s0, vI 0, vI ((1 : Int32) + (1 : Int32))]) rfl ?_
    rw [(by decide : ((1 : Int32) + (1 : Int32)) = (2 : Int32))]
    refine XS.goto X17.here hx rfl (pc0 := 84) (pc' := 47) rfl (hb hby d7_84) (by decide) (by decide) ?_
    refine XS.iload X17.here hx rfl (hb hby d7_47) rfl ?_
    refine XS.aloadN X17.here hx rfl (hb hby d7_49) rfl rfl ?_
    refine st22 _ ?_
    refine XS.iload X22.here hx rfl (hb hby d7_53) rfl ?_
    refine X22.iaload hx (j := (0 : Int32)) (v := (.int (3 : Int32))) (by rw [e22]; exact Ar11.1) (State.isArrayOf_alike hZ.alike Ar11.2.1) Ar11.2.2 hin23 (Has.at H11 hin23 rfl) (g := (mkF m 55 #[vR a1, vI 1, vI (-1), vI 1, vI 0, vR s0, vI 0, vI 2] [iI 0, iR bn, iI 2])) rfl rfl (hb hby d7_55) _ ?_
    refine XS.icmpNo X22.here hx rfl (hb hby d7_56) rfl (tlt (by decide : (2 : Int32) < (3 : Int32))).2.1 ?_
    refine XS.aload X22.here hx rfl (hb hby d7_59) rfl rfl ?_
    refine XS.iload X22.here hx rfl (hb hby d7_61) rfl ?_
    refine X22.iaload hx (j := (2 : Int32)) (v := (.int x2_)) (by rw [e22]; exact Ar14.1) (State.isArrayOf_alike hZ.alike Ar14.2.1) Ar14.2.2 hin25 (Has.at H14 hin25 rfl) (g := (mkF m 63 #[vR a1, vI 1, vI (-1), vI 1, vI 0, vR s0, vI 0, vI 2] [iI 2, iR s0])) rfl rfl (hb hby d7_63) _ ?_
    refine XS.iloadN X22.here hx rfl (hb hby d7_64) rfl ?_
    refine XS.icmpYes X22.here hx rfl (pc0 := 65) (pc' := 81) rfl (hb hby d7_65) rfl (flt h_x2_).2.1 (by decide) (by decide) ?_
    refine XS.iinc X22.here hx rfl (hb hby d7_81) rfl (l' := #[vR a1, vI 1, vI (-1), vI 1, vI 0, vR s0, vI 0, vI ((2 : Int32) + (1 : Int32))]) rfl ?_
    rw [(by decide : ((2 : Int32) + (1 : Int32)) = (3 : Int32))]
    refine XS.goto X22.here hx rfl (pc0 := 84) (pc' := 47) rfl (hb hby d7_84) (by decide) (by decide) ?_
    refine XS.iload X22.here hx rfl (hb hby d7_47) rfl ?_
    refine XS.aloadN X22.here hx rfl (hb hby d7_49) rfl rfl ?_
    refine st27 _ ?_
    refine XS.iload X27.here hx rfl (hb hby d7_53) rfl ?_
    refine X27.iaload hx (j := (0 : Int32)) (v := (.int (3 : Int32))) (by rw [e27]; exact Ar11.1) (State.isArrayOf_alike hZ.alike Ar11.2.1) Ar11.2.2 hin28 (Has.at H11 hin28 rfl) (g := (mkF m 55 #[vR a1, vI 1, vI (-1), vI 1, vI 0, vR s0, vI 0, vI 3] [iI 0, iR bn, iI 3])) rfl rfl (hb hby d7_55) _ ?_
    refine XS.icmpYes X27.here hx rfl (pc0 := 56) (pc' := 87) rfl (hb hby d7_56) rfl (flt (by decide : ¬ ((3 : Int32) < (3 : Int32)))).2.1 (by decide) (by decide) ?_
    refine XS.aloadN X27.here hx rfl (hb hby d7_87) rfl rfl ?_
    refine st30 _ ?_
    refine XS.iload X30.here hx rfl (hb hby d7_91) rfl ?_
    refine XS.iload X30.here hx rfl (hb hby d7_93) rfl ?_
    refine st32 _ ?_
    refine XS.iload X32.here hx rfl (hb hby d7_96) rfl ?_
    refine XS.istoreN X32.here hx rfl (hb hby d7_98) rfl (l' := #[vR a1, vI 1, vI 0, vI 1, vI 0, vR s0, vI 0, vI 3]) rfl ?_
    refine XS.aloadN X32.here hx rfl (hb hby d7_99) rfl rfl ?_
    refine st34 _ ?_
    refine XS.iloadN X34.here hx rfl (hb hby d7_103) rfl ?_
    refine XS.aconstNull X34.here hx rfl (hb hby d7_104) ?_
    refine st38 _ ?_
    refine XS.aloadN X38.here hx rfl (hb hby d7_106) rfl rfl ?_
    refine st40 _ ?_
    refine XS.iloadN X40.here hx rfl (hb hby d7_110) rfl ?_
    refine XS.iconst X40.here hx rfl (hb hby d7_111) ?_
    refine st44 _ ?_
    refine XS.iinc X44.here hx rfl (hb hby d7_113) rfl (l' := #[vR a1, vI 1, vI 0, vI ((1 : Int32) + (1 : Int32)), vI 0, vR s0, vI 0, vI 3]) rfl ?_
    rw [(by decide : ((1 : Int32) + (1 : Int32)) = (2 : Int32))]
    refine XS.goto X44.here hx rfl (pc0 := 116) (pc' := 4) rfl (hb hby d7_116) (by decide) (by decide) ?_
    refine XS.iloadN X44.here hx rfl (hb hby d7_4) rfl ?_
    refine XS.aloadN X44.here hx rfl (hb hby d7_5) rfl rfl ?_
    refine st46 _ ?_
    refine XS.icmpNo X46.here hx rfl (hb hby d7_9) rfl (tlt (by decide : (2 : Int32) < (7 : Int32))).2.1 ?_
    refine XS.aloadN X46.here hx rfl (hb hby d7_12) rfl rfl ?_
    refine st48 _ ?_
    refine XS.iloadN X48.here hx rfl (hb hby d7_16) rfl ?_
    refine X48.iaload hx (j := (2 : Int32)) (v := (.int (0 : Int32))) (by rw [e48]; exact Ar50.1) (State.isArrayOf_alike hZ.alike Ar50.2.1) Ar50.2.2 hin51 hat52 (g := (mkF m 17 #[vR a1, vI 1, vI 0, vI 2, vI 0, vR s0, vI 0, vI 3] [iI 2, iR bp])) rfl rfl (hb hby d7_17) _ ?_
    refine XS.istore X48.here hx rfl (hb hby d7_18) rfl (l' := #[vR a1, vI 1, vI 0, vI 2, vI 0, vR s0, vI 0, vI 3]) rfl ?_
    refine XS.iload X48.here hx rfl (hb hby d7_20) rfl ?_
    refine XS.iloadN X48.here hx rfl (hb hby d7_22) rfl ?_
    refine XS.icmpNo X48.here hx rfl (hb hby d7_23) rfl (tlt (by decide : (0 : Int32) < (1 : Int32))).2.1 ?_
    refine XS.iload X48.here hx rfl (hb hby d7_26) rfl ?_
    refine XS.iloadN X48.here hx rfl (hb hby d7_28) rfl ?_
    refine XS.icmpYes X48.here hx rfl (pc0 := 29) (pc' := 99) rfl (hb hby d7_29) rfl (teq (by decide : (0 : Int32) = (0 : Int32))).1 (by decide) (by decide) ?_
    refine XS.aloadN X48.here hx rfl (hb hby d7_99) rfl rfl ?_
    show SA T48 m 100 #[vR a1, vI 1, vI 0, vI 2, vI 0, vR s0, vI 0, vI 3] [iR a1]
    refine st54 _ ?_
    refine XS.iloadN X54.here hx rfl (hb hby d7_103) rfl ?_
    refine XS.aconstNull X54.here hx rfl (hb hby d7_104) ?_
    refine st58 _ ?_
    refine XS.aloadN X58.here hx rfl (hb hby d7_106) rfl rfl ?_
    refine st60 _ ?_
    refine XS.iloadN X60.here hx rfl (hb hby d7_110) rfl ?_
    refine XS.iconst X60.here hx rfl (hb hby d7_111) ?_
    refine st64 _ ?_
    refine XS.iinc X64.here hx rfl (hb hby d7_113) rfl (l' := #[vR a1, vI 1, vI 0, vI ((2 : Int32) + (1 : Int32)), vI 0, vR s0, vI 0, vI 3]) rfl ?_
    rw [(by decide : ((2 : Int32) + (1 : Int32)) = (3 : Int32))]
    refine XS.goto X64.here hx rfl (pc0 := 116) (pc' := 4) rfl (hb hby d7_116) (by decide) (by decide) ?_
    refine XS.iloadN X64.here hx rfl (hb hby d7_4) rfl ?_
    refine XS.aloadN X64.here hx rfl (hb hby d7_5) rfl rfl ?_
    refine st66 _ ?_
    refine XS.icmpNo X66.here hx rfl (hb hby d7_9) rfl (tlt (by decide : (3 : Int32) < (7 : Int32))).2.1 ?_
    refine XS.aloadN X66.here hx rfl (hb hby d7_12) rfl rfl ?_
    refine st68 _ ?_
    refine XS.iloadN X68.here hx rfl (hb hby d7_16) rfl ?_
    refine X68.iaload hx (j := (3 : Int32)) (v := (.int (1 : Int32))) (by rw [e68]; exact Ar70.1) (State.isArrayOf_alike hZ.alike Ar70.2.1) Ar70.2.2 hin71 hat72 (g := (mkF m 17 #[vR a1, vI 1, vI 0, vI 3, vI 0, vR s0, vI 0, vI 3] [iI 3, iR bp])) rfl rfl (hb hby d7_17) _ ?_
    refine XS.istore X68.here hx rfl (hb hby d7_18) rfl (l' := #[vR a1, vI 1, vI 0, vI 3, vI 1, vR s0, vI 0, vI 3]) rfl ?_
    refine XS.iload X68.here hx rfl (hb hby d7_20) rfl ?_
    refine XS.iloadN X68.here hx rfl (hb hby d7_22) rfl ?_
    refine XS.icmpYes X68.here hx rfl (pc0 := 23) (pc' := 99) rfl (hb hby d7_23) rfl (flt (by decide : ¬ ((1 : Int32) < (1 : Int32)))).2.1 (by decide) (by decide) ?_
    refine XS.aloadN X68.here hx rfl (hb hby d7_99) rfl rfl ?_
    refine st74 _ ?_
    refine XS.iloadN X74.here hx rfl (hb hby d7_103) rfl ?_
    refine XS.aconstNull X74.here hx rfl (hb hby d7_104) ?_
    refine st78 _ ?_
    refine XS.aloadN X78.here hx rfl (hb hby d7_106) rfl rfl ?_
    refine st80 _ ?_
    refine XS.iloadN X80.here hx rfl (hb hby d7_110) rfl ?_
    refine XS.iconst X80.here hx rfl (hb hby d7_111) ?_
    refine st84 _ ?_
    refine XS.iinc X84.here hx rfl (hb hby d7_113) rfl (l' := #[vR a1, vI 1, vI 0, vI ((3 : Int32) + (1 : Int32)), vI 1, vR s0, vI 0, vI 3]) rfl ?_
    rw [(by decide : ((3 : Int32) + (1 : Int32)) = (4 : Int32))]
    refine XS.goto X84.here hx rfl (pc0 := 116) (pc' := 4) rfl (hb hby d7_116) (by decide) (by decide) ?_
    refine XS.iloadN X84.here hx rfl (hb hby d7_4) rfl ?_
    refine XS.aloadN X84.here hx rfl (hb hby d7_5) rfl rfl ?_
    refine st86 _ ?_
    refine XS.icmpNo X86.here hx rfl (hb hby d7_9) rfl (tlt (by decide : (4 : Int32) < (7 : Int32))).2.1 ?_
    refine XS.aloadN X86.here hx rfl (hb hby d7_12) rfl rfl ?_
    refine st88 _ ?_
    refine XS.iloadN X88.here hx rfl (hb hby d7_16) rfl ?_
    refine X88.iaload hx (j := (4 : Int32)) (v := (.int (0 : Int32))) (by rw [e88]; exact Ar90.1) (State.isArrayOf_alike hZ.alike Ar90.2.1) Ar90.2.2 hin91 hat92 (g := (mkF m 17 #[vR a1, vI 1, vI 0, vI 4, vI 1, vR s0, vI 0, vI 3] [iI 4, iR bp])) rfl rfl (hb hby d7_17) _ ?_
    refine XS.istore X88.here hx rfl (hb hby d7_18) rfl (l' := #[vR a1, vI 1, vI 0, vI 4, vI 0, vR s0, vI 0, vI 3]) rfl ?_
    refine XS.iload X88.here hx rfl (hb hby d7_20) rfl ?_
    refine XS.iloadN X88.here hx rfl (hb hby d7_22) rfl ?_
    refine XS.icmpNo X88.here hx rfl (hb hby d7_23) rfl (tlt (by decide : (0 : Int32) < (1 : Int32))).2.1 ?_
    refine XS.iload X88.here hx rfl (hb hby d7_26) rfl ?_
    refine XS.iloadN X88.here hx rfl (hb hby d7_28) rfl ?_
    refine XS.icmpYes X88.here hx rfl (pc0 := 29) (pc' := 99) rfl (hb hby d7_29) rfl (teq (by decide : (0 : Int32) = (0 : Int32))).1 (by decide) (by decide) ?_
    refine XS.aloadN X88.here hx rfl (hb hby d7_99) rfl rfl ?_
    show SA T88 m 100 #[vR a1, vI 1, vI 0, vI 4, vI 0, vR s0, vI 0, vI 3] [iR a1]
    refine st94 _ ?_
    refine XS.iloadN X94.here hx rfl (hb hby d7_103) rfl ?_
    refine XS.aconstNull X94.here hx rfl (hb hby d7_104) ?_
    refine st98 _ ?_
    refine XS.aloadN X98.here hx rfl (hb hby d7_106) rfl rfl ?_
    refine st100 _ ?_
    refine XS.iloadN X100.here hx rfl (hb hby d7_110) rfl ?_
    refine XS.iconst X100.here hx rfl (hb hby d7_111) ?_
    refine st104 _ ?_
    refine XS.iinc X104.here hx rfl (hb hby d7_113) rfl (l' := #[vR a1, vI 1, vI 0, vI ((4 : Int32) + (1 : Int32)), vI 0, vR s0, vI 0, vI 3]) rfl ?_
    rw [(by decide : ((4 : Int32) + (1 : Int32)) = (5 : Int32))]
    refine XS.goto X104.here hx rfl (pc0 := 116) (pc' := 4) rfl (hb hby d7_116) (by decide) (by decide) ?_
    refine XS.iloadN X104.here hx rfl (hb hby d7_4) rfl ?_
    refine XS.aloadN X104.here hx rfl (hb hby d7_5) rfl rfl ?_
    refine st106 _ ?_
    refine XS.icmpNo X106.here hx rfl (hb hby d7_9) rfl (tlt (by decide : (5 : Int32) < (7 : Int32))).2.1 ?_
    refine XS.aloadN X106.here hx rfl (hb hby d7_12) rfl rfl ?_
    refine st108 _ ?_
    refine XS.iloadN X108.here hx rfl (hb hby d7_16) rfl ?_
    refine X108.iaload hx (j := (5 : Int32)) (v := (.int (2 : Int32))) (by rw [e108]; exact Ar110.1) (State.isArrayOf_alike hZ.alike Ar110.2.1) Ar110.2.2 hin111 hat112 (g := (mkF m 17 #[vR a1, vI 1, vI 0, vI 5, vI 0, vR s0, vI 0, vI 3] [iI 5, iR bp])) rfl rfl (hb hby d7_17) _ ?_
    refine XS.istore X108.here hx rfl (hb hby d7_18) rfl (l' := #[vR a1, vI 1, vI 0, vI 5, vI 2, vR s0, vI 0, vI 3]) rfl ?_
    refine XS.iload X108.here hx rfl (hb hby d7_20) rfl ?_
    refine XS.iloadN X108.here hx rfl (hb hby d7_22) rfl ?_
    refine XS.icmpYes X108.here hx rfl (pc0 := 23) (pc' := 99) rfl (hb hby d7_23) rfl (flt (by decide : ¬ ((2 : Int32) < (1 : Int32)))).2.1 (by decide) (by decide) ?_
    refine XS.aloadN X108.here hx rfl (hb hby d7_99) rfl rfl ?_
    refine st114 _ ?_
    refine XS.iloadN X114.here hx rfl (hb hby d7_103) rfl ?_
    refine XS.aconstNull X114.here hx rfl (hb hby d7_104) ?_
    refine st118 _ ?_
    refine XS.aloadN X118.here hx rfl (hb hby d7_106) rfl rfl ?_
    refine st120 _ ?_
    refine XS.iloadN X120.here hx rfl (hb hby d7_110) rfl ?_
    refine XS.iconst X120.here hx rfl (hb hby d7_111) ?_
    refine st124 _ ?_
    refine XS.iinc X124.here hx rfl (hb hby d7_113) rfl (l' := #[vR a1, vI 1, vI 0, vI ((5 : Int32) + (1 : Int32)), vI 2, vR s0, vI 0, vI 3]) rfl ?_
    rw [(by decide : ((5 : Int32) + (1 : Int32)) = (6 : Int32))]
    refine XS.goto X124.here hx rfl (pc0 := 116) (pc' := 4) rfl (hb hby d7_116) (by decide) (by decide) ?_
    refine XS.iloadN X124.here hx rfl (hb hby d7_4) rfl ?_
    refine XS.aloadN X124.here hx rfl (hb hby d7_5) rfl rfl ?_
    refine st126 _ ?_
    refine XS.icmpNo X126.here hx rfl (hb hby d7_9) rfl (tlt (by decide : (6 : Int32) < (7 : Int32))).2.1 ?_
    refine XS.aloadN X126.here hx rfl (hb hby d7_12) rfl rfl ?_
    refine st128 _ ?_
    refine XS.iloadN X128.here hx rfl (hb hby d7_16) rfl ?_
    refine X128.iaload hx (j := (6 : Int32)) (v := (.int (2 : Int32))) (by rw [e128]; exact Ar130.1) (State.isArrayOf_alike hZ.alike Ar130.2.1) Ar130.2.2 hin131 hat132 (g := (mkF m 17 #[vR a1, vI 1, vI 0, vI 6, vI 2, vR s0, vI 0, vI 3] [iI 6, iR bp])) rfl rfl (hb hby d7_17) _ ?_
    refine XS.istore X128.here hx rfl (hb hby d7_18) rfl (l' := #[vR a1, vI 1, vI 0, vI 6, vI 2, vR s0, vI 0, vI 3]) rfl ?_
    refine XS.iload X128.here hx rfl (hb hby d7_20) rfl ?_
    refine XS.iloadN X128.here hx rfl (hb hby d7_22) rfl ?_
    refine XS.icmpYes X128.here hx rfl (pc0 := 23) (pc' := 99) rfl (hb hby d7_23) rfl (flt (by decide : ¬ ((2 : Int32) < (1 : Int32)))).2.1 (by decide) (by decide) ?_
    refine XS.aloadN X128.here hx rfl (hb hby d7_99) rfl rfl ?_
    refine st134 _ ?_
    refine XS.iloadN X134.here hx rfl (hb hby d7_103) rfl ?_
    refine XS.aconstNull X134.here hx rfl (hb hby d7_104) ?_
    refine st138 _ ?_
    refine XS.aloadN X138.here hx rfl (hb hby d7_106) rfl rfl ?_
    refine st140 _ ?_
    refine XS.iloadN X140.here hx rfl (hb hby d7_110) rfl ?_
    refine XS.iconst X140.here hx rfl (hb hby d7_111) ?_
    refine st144 _ ?_
    refine XS.iinc X144.here hx rfl (hb hby d7_113) rfl (l' := #[vR a1, vI 1, vI 0, vI ((6 : Int32) + (1 : Int32)), vI 2, vR s0, vI 0, vI 3]) rfl ?_
    rw [(by decide : ((6 : Int32) + (1 : Int32)) = (7 : Int32))]
    refine XS.goto X144.here hx rfl (pc0 := 116) (pc' := 4) rfl (hb hby d7_116) (by decide) (by decide) ?_
    refine XS.iloadN X144.here hx rfl (hb hby d7_4) rfl ?_
    refine XS.aloadN X144.here hx rfl (hb hby d7_5) rfl rfl ?_
    refine st146 _ ?_
    refine XS.icmpYes X146.here hx rfl (pc0 := 9) (pc' := 119) rfl (hb hby d7_9) rfl (flt (by decide : ¬ ((7 : Int32) < (7 : Int32)))).2.1 (by decide) (by decide) ?_
    refine XS.aloadN X146.here hx rfl (hb hby d7_119) rfl rfl ?_
    refine XS.iloadN X146.here hx rfl (hb hby d7_120) rfl ?_
    refine st148 _ ?_
    show Steps _ _ _ (T148.setTop (mkF m 124 #[vR a1, vI 1, vI 0, vI 7, vI 2, vR s0, vI 0, vI 3] [])) _
    exact X148.returnOut hx Bd.returns (hb hby d7_124) hr
  · show Q7_1 Z a1 bi bf bp bc bn ki kf kp kc kn IL FL PL s0 s1 s2 q0 q1 q2 x0_ x1_ x2_ x3_ y1_ y2_ y3_ z0_ z1_ z2_ z3_ h0 n0 _ T148.heap _
    rw [e148]
    exact ⟨x0_, x1_, x2_, x3_, z0_, z1_, z2_, z3_, rfl, N148, K148, fk149, Fw148, fk150, fk151, fk152, fk153, fk154, fk155, fk156, fk157, fk158, fk159, fk160, fk161, fk162, fk163, fk164, fk165, trivial⟩
theorem d7_68 : decode prog_23_method_4_code 68 = .ok (.aload 5, 2) := by decide +kernel
theorem d7_70 : decode prog_23_method_4_code 70 = .ok (.iload 6, 2) := by decide +kernel
theorem d7_72 : decode prog_23_method_4_code 72 = .ok (.iinc 6 1, 3) := by decide +kernel
theorem d7_75 : decode prog_23_method_4_code 75 = .ok (.aload 5, 2) := by decide +kernel
theorem d7_77 : decode prog_23_method_4_code 77 = .ok (.iload 7, 2) := by decide +kernel
theorem d7_79 : decode prog_23_method_4_code 79 = .ok (.iaload, 1) := by decide +kernel
theorem d7_80 : decode prog_23_method_4_code 80 = .ok (.iastore, 1) := by decide +kernel
theorem own_t7_2 {p : Program} {l : Launch} {e : Env} {s : State} {m : MethodId} {below : List Frame} {meth : Method} {c : Code} {T0 : State} {locs : List Loc} {Z : State} {a0 : Array Value} {h0 hT : Heap} {n0 : Nat} {a1 : Addr} {bi bf bp bc bn : Addr} {ki kf kp kc kn : ClassId} {IL FL PL : List Int32} {s0 s1 s2 : Addr} {q0 q1 q2 : ClassId} {x0_ x1_ x2_ x3_ y1_ y2_ y3_ z0_ z1_ z2_ z3_ : Int32} {w0_ w1_ w2_ w3_ c4_ c6_ c7_ : Int32} {c5_ : Addr}
    (X0 : Stand p l e ({ frames := 0, cells := 0, slots := 0, locals := 0 } : Room) s m #[(.ref a1), (.int (2 : Int32))] below meth c T0 locs 0 0) (hx : p.tables.exec = Jvm.exec) (hZ : Z.Warmed39 s.vm) (hw : ∀ d ∈ tables_1, d.before a0 Z = true) (hby : c.code = prog_23_method_4_code) (hml : c.maxLocals = 8) (hown : s.vm.findClass "com/example/tidemine/tidemine/PatternTrie" = some m.cls) (hret : meth.sig.returnType = none) (hlocks : meth.locks = false) (e0 : T0.heap = hT) (Kt0 : Keep h0 hT [a1, bc, bn, s0, s1, s2]) (N0 : Fr n0 locs) (Z0 : n0 ≤ h0.size) (E_a1 : Exa Z hT a1 "com/example/tidemine/tidemine/PatternTrie") (F_size : Fld Z hT a1 "com/example/tidemine/tidemine/PatternTrie" "size" "I" (.int (7 : Int32))) (F_items : Fld Z hT a1 "com/example/tidemine/tidemine/PatternTrie" "items" "[I" (.ref bi)) (V_bi : Arv Z hT bi ki .int (16 : Int32) (own_bs IL) (.int (0 : Int32))) (F_sameEvents : Fld Z hT a1 "com/example/tidemine/tidemine/PatternTrie" "sameEvents" "[Z" (.ref bf)) (V_bf : Arv Z hT bf kf .boolean (16 : Int32) (own_bs FL) (.int (0 : Int32))) (F_parents : Fld Z hT a1 "com/example/tidemine/tidemine/PatternTrie" "parents" "[I" (.ref bp)) (V_bp : Arv Z hT bp kp .int (16 : Int32) (own_bs PL) (.int (0 : Int32))) (F_children : Fld Z hT a1 "com/example/tidemine/tidemine/PatternTrie" "children" "[[I" (.ref bc)) (V_bc : Arv Z hT bc kc (.array .int) (16 : Int32) [(.ref s0), (.ref s1), .null, .null, .null, .null, .null, .null, .null, .null, .null, .null, .null, .null, .null, .null] .null) (F_childCounts : Fld Z hT a1 "com/example/tidemine/tidemine/PatternTrie" "childCounts" "[I" (.ref bn)) (V_bn : Arv Z hT bn kn .int (16 : Int32) (own_bs [1, 1, 0, 0, 0, 0, 0, 0, 0, 0, 0, 0, 0, 0, 0, 0]) (.int (0 : Int32))) (V_s0 : Arv Z hT s0 q0 .int (4 : Int32) (own_bs [w0_, w1_, w2_, w3_]) (.int (0 : Int32))) (E_s0 : Exa Z hT s0 "[I") (V_s1 : Arv Z hT s1 q1 .int (4 : Int32) (own_bs [3, y1_, y2_, y3_]) (.int (0 : Int32))) (E_s1 : Exa Z hT s1 "[I") (V_s2 : Arv Z hT s2 q2 .int (4 : Int32) (own_bs [z0_, z1_, z2_, z3_]) (.int (0 : Int32))) (E_s2 : Exa Z hT s2 "[I") (hpr1 : PL.getD 1 0 = (0 : Int32)) (hpr2 : PL.getD 2 0 = (0 : Int32)) (hpr3 : PL.getD 3 0 = (1 : Int32)) (hpr4 : PL.getD 4 0 = (0 : Int32)) (hpr5 : PL.getD 5 0 = (2 : Int32)) (hpr6 : PL.getD 6 0 = (2 : Int32)) (g_a1 : n0 ≤ a1) (g_bi : n0 ≤ bi) (g_bf : n0 ≤ bf) (g_bp : n0 ≤ bp) (g_bc : n0 ≤ bc) (g_bn : n0 ≤ bn) (g_s0 : n0 ≤ s0) (g_s1 : n0 ≤ s1) (g_s2 : n0 ≤ s2) (ne_a1_bi : a1 ≠ bi) (ne_a1_bf : a1 ≠ bf) (ne_a1_bp : a1 ≠ bp) (ne_a1_bc : a1 ≠ bc) (ne_a1_bn : a1 ≠ bn) (ne_a1_s0 : a1 ≠ s0) (ne_a1_s1 : a1 ≠ s1) (ne_a1_s2 : a1 ≠ s2) (ne_bi_bf : bi ≠ bf) (ne_bi_bp : bi ≠ bp) (ne_bi_bc : bi ≠ bc) (ne_bi_bn : bi ≠ bn) (ne_bi_s0 : bi ≠ s0) (ne_bi_s1 : bi ≠ s1) (ne_bi_s2 : bi ≠ s2) (ne_bf_bp : bf ≠ bp) (ne_bf_bc : bf ≠ bc) (ne_bf_bn : bf ≠ bn) (ne_bf_s0 : bf ≠ s0) (ne_bf_s1 : bf ≠ s1) (ne_bf_s2 : bf ≠ s2) (ne_bp_bc : bp ≠ bc) (ne_bp_bn : bp ≠ bn) (ne_bp_s0 : bp ≠ s0) (ne_bp_s1 : bp ≠ s1) (ne_bp_s2 : bp ≠ s2) (ne_bc_bn : bc ≠ bn) (ne_bc_s0 : bc ≠ s0) (ne_bc_s1 : bc ≠ s1) (ne_bc_s2 : bc ≠ s2) (ne_bn_s0 : bn ≠ s0) (ne_bn_s1 : bn ≠ s1) (ne_bn_s2 : bn ≠ s2) (ne_s0_s1 : s0 ≠ s1) (ne_s0_s2 : s0 ≠ s2) (ne_s1_s2 : s1 ≠ s2) (hw0 : w0_ < (2 : Int32)) (hrel : (x0_ < (2 : Int32) → w0_ = x0_) ∧ (x1_ < (2 : Int32) → w0_ = x1_) ∧ (x2_ < (2 : Int32) → w0_ = x2_)) :
    ∃ s₂ o, Steps p.tables e below (T0.setTop (mkF m 4 #[vR a1, vI 2, vI 0, vI 3, vI c4_, vR c5_, vI c6_, vI c7_] [])) s₂ ∧ s₂.status = .running ∧ Ended s₂ below o ∧ ∃ v L, o = .returned v ∧ own_QT2 Z a1 bi bf bp bc bn ki kf kp kc kn IL FL PL s0 s1 s2 q0 q1 q2 x0_ x1_ x2_ x3_ y1_ y2_ y3_ z0_ z1_ z2_ z3_ h0 n0 v s₂.heap L ∧ FrameEnd s o s₂ L ({ frames := 0, cells := 0, slots := 0, locals := 0 } : Room).cells ({ frames := 0, cells := 0, slots := 0, locals := 0 } : Room).slots := by
  obtain ⟨T1, X1, e1, st1⟩ := gF X0 hx hZ hown (ww hw 10 rfl) e0 F_size (g := (mkF m 6 #[vR a1, vI 2, vI 0, vI 3, vI c4_, vR c5_, vI c6_, vI c7_] [iR a1, iI 3])) rfl rfl (hb hby d7_6)
  obtain ⟨T2, X2, e2, st2⟩ := gF X1 hx hZ hown (ww hw 18 rfl) e1 F_parents (g := (mkF m 13 #[vR a1, vI 2, vI 0, vI 3, vI c4_, vR c5_, vI c6_, vI c7_] [iR a1])) rfl rfl (hb hby d7_13)
  obtain ⟨cl3, Ar3, q3, S3, M3, H3, G3⟩ := id V_bp
  have hin4 := inb_of (j := (3 : Int32)) S3 ⟨by decide, by decide⟩
  have hat5 : cl3.slots[((3 : Int32)).toNatClampNeg]? = some (.int (1 : Int32)) := Has.at H3 hin4 (by rw [own_bsget]; exact congrArg Value.int hpr3)
  obtain ⟨T6, X6, e6, st6⟩ := gF X2 hx hZ hown (ww hw 22 rfl) e2 F_children (g := (mkF m 33 #[vR a1, vI 2, vI 0, vI 3, vI 1, vR c5_, vI c6_, vI c7_] [iR a1])) rfl rfl (hb hby d7_33)
  obtain ⟨cl7, Ar7, q7, S7, M7, H7, G7⟩ := id V_bc
  have hin8 := inb_of (j := (1 : Int32)) S7 ⟨by decide, by decide⟩
  obtain ⟨T10, X10, e10, st10⟩ := gF X6 hx hZ hown (ww hw 24 rfl) e6 F_childCounts (g := (mkF m 50 #[vR a1, vI 2, vI 0, vI 3, vI 1, vR s1, vI 0, vI 0] [iR a1, iI 0])) rfl rfl (hb hby d7_50)
  obtain ⟨cl11, Ar11, q11, S11, M11, H11, G11⟩ := id V_bn
  have hin12 := inb_of (j := (1 : Int32)) S11 ⟨by decide, by decide⟩
  obtain ⟨cl14, Ar14, q14, S14, M14, H14, G14⟩ := id V_s1
  have hin15 := inb_of (j := (0 : Int32)) S14 ⟨by decide, by decide⟩
  obtain ⟨T17, X17, e17, st17⟩ := gF X10 hx hZ hown (ww hw 24 rfl) e10 F_childCounts (g := (mkF m 50 #[vR a1, vI 2, vI 0, vI 3, vI 1, vR s1, vI 0, vI 1] [iR a1, iI 1])) rfl rfl (hb hby d7_50)
  have hin18 := inb_of (j := (1 : Int32)) S11 ⟨by decide, by decide⟩
  obtain ⟨T20, X20, e20, st20⟩ := gF X17 hx hZ hown (ww hw 24 rfl) e17 F_childCounts (g := (mkF m 88 #[vR a1, vI 2, vI 0, vI 3, vI 1, vR s1, vI 0, vI 1] [iR a1])) rfl rfl (hb hby d7_88)
  have hin21 := inb_of (j := (1 : Int32)) S11 ⟨by decide, by decide⟩
  obtain ⟨T22, h22, X22, e22, W22, st22⟩ := stI X20 hx hZ e20 Ar11 (j := (1 : Int32)) hin21 (g := (mkF m 95 #[vR a1, vI 2, vI 0, vI 3, vI 1, vR s1, vI 0, vI 1] [iI 0, iI 1, iR bn])) rfl rfl (hb hby d7_95)
  have V22 : Arv Z h22 bn kn .int (16 : Int32) (own_bs [1, 0, 0, 0, 0, 0, 0, 0, 0, 0, 0, 0, 0, 0, 0, 0]) (.int (0 : Int32)) := Arv.set Ar11 q11 S11 M11 H11 G11 rfl W22 1 rfl (Nat.le_of_ble_eq_true rfl)
  have K22 : Keep h0 h22 [a1, bc, bn, s0, s1, s2] := Kt0.wr W22 (Or.inl (List.mem_of_getElem? (i := 2) rfl))
  have N22 := Fr.snoc X22 N0 g_bn
  have fk23 := (F_children.other W22 (Or.inl ne_a1_bn))
  obtain ⟨T24, X24, e24, st24⟩ := gF X22 hx hZ hown (ww hw 22 rfl) e22 fk23 (g := (mkF m 100 #[vR a1, vI 2, vI 1, vI 3, vI 1, vR s1, vI 0, vI 1] [iR a1])) rfl rfl (hb hby d7_100)
  have fk25 := (V_bc.other W22 ne_bc_bn)
  obtain ⟨cl26, Ar26, q26, S26, M26, H26, G26⟩ := id fk25
  have hin27 := inb_of (j := (3 : Int32)) S26 ⟨by decide, by decide⟩
  obtain ⟨T28, h28, X28, e28, W28, st28⟩ := stR X24 hx hZ e24 Ar26 (j := (3 : Int32)) (v := .null) hin27 rfl (Or.inl rfl) (g := (mkF m 105 #[vR a1, vI 2, vI 1, vI 3, vI 1, vR s1, vI 0, vI 1] [.null, iI 3, iR bc])) rfl rfl (hb hby d7_105)
  have V28 : Arv Z h28 bc kc (.array .int) (16 : Int32) [(.ref s0), (.ref s1), .null, .null, .null, .null, .null, .null, .null, .null, .null, .null, .null, .null, .null, .null] .null := Arv.set Ar26 q26 S26 M26 H26 G26 rfl W28 3 rfl (Nat.le_of_ble_eq_true rfl)
  have K28 : Keep h0 h28 [a1, bc, bn, s0, s1, s2] := K22.wr W28 (Or.inl (List.mem_of_getElem? (i := 1) rfl))
  have N28 := Fr.snoc X28 N22 g_bc
  have fk29 := ((F_childCounts.other W22 (Or.inl ne_a1_bn)).other W28 (Or.inl ne_a1_bc))
  obtain ⟨T30, X30, e30, st30⟩ := gF X28 hx hZ hown (ww hw 24 rfl) e28 fk29 (g := (mkF m 107 #[vR a1, vI 2, vI 1, vI 3, vI 1, vR s1, vI 0, vI 1] [iR a1])) rfl rfl (hb hby d7_107)
  have fk31 := (V22.other W28 (Ne.symm ne_bc_bn))
  obtain ⟨cl32, Ar32, q32, S32, M32, H32, G32⟩ := id fk31
  have hin33 := inb_of (j := (3 : Int32)) S32 ⟨by decide, by decide⟩
  obtain ⟨T34, h34, X34, e34, W34, st34⟩ := stI X30 hx hZ e30 Ar32 (j := (3 : Int32)) hin33 (g := (mkF m 112 #[vR a1, vI 2, vI 1, vI 3, vI 1, vR s1, vI 0, vI 1] [iI 0, iI 3, iR bn])) rfl rfl (hb hby d7_112)
  have V34 : Arv Z h34 bn kn .int (16 : Int32) (own_bs [1, 0, 0, 0, 0, 0, 0, 0, 0, 0, 0, 0, 0, 0, 0, 0]) (.int (0 : Int32)) := Arv.set Ar32 q32 S32 M32 H32 G32 rfl W34 3 rfl (Nat.le_of_ble_eq_true rfl)
  have K34 : Keep h0 h34 [a1, bc, bn, s0, s1, s2] := K28.wr W34 (Or.inl (List.mem_of_getElem? (i := 2) rfl))
  have N34 := Fr.snoc X34 N28 g_bn
  have fk35 := (((F_size.other W22 (Or.inl ne_a1_bn)).other W28 (Or.inl ne_a1_bc)).other W34 (Or.inl ne_a1_bn))
  obtain ⟨T36, X36, e36, st36⟩ := gF X34 hx hZ hown (ww hw 10 rfl) e34 fk35 (g := (mkF m 6 #[vR a1, vI 2, vI 1, vI 4, vI 1, vR s1, vI 0, vI 1] [iR a1, iI 4])) rfl rfl (hb hby d7_6)
  have fk37 := (((F_parents.other W22 (Or.inl ne_a1_bn)).other W28 (Or.inl ne_a1_bc)).other W34 (Or.inl ne_a1_bn))
  obtain ⟨T38, X38, e38, st38⟩ := gF X36 hx hZ hown (ww hw 18 rfl) e36 fk37 (g := (mkF m 13 #[vR a1, vI 2, vI 1, vI 4, vI 1, vR s1, vI 0, vI 1] [iR a1])) rfl rfl (hb hby d7_13)
  have fk39 := (((V_bp.other W22 ne_bp_bn).other W28 ne_bp_bc).other W34 ne_bp_bn)
  obtain ⟨cl40, Ar40, q40, S40, M40, H40, G40⟩ := id fk39
  have hin41 := inb_of (j := (4 : Int32)) S40 ⟨by decide, by decide⟩
  have hat42 : cl40.slots[((4 : Int32)).toNatClampNeg]? = some (.int (0 : Int32)) := Has.at H40 hin41 (by rw [own_bsget]; exact congrArg Value.int hpr4)
  have fk43 := ((fk23.other W28 (Or.inl ne_a1_bc)).other W34 (Or.inl ne_a1_bn))
  obtain ⟨T44, X44, e44, st44⟩ := gF X38 hx hZ hown (ww hw 22 rfl) e38 fk43 (g := (mkF m 33 #[vR a1, vI 2, vI 1, vI 4, vI 0, vR s1, vI 0, vI 1] [iR a1])) rfl rfl (hb hby d7_33)
  have fk45 := (V28.other W34 ne_bc_bn)
  obtain ⟨cl46, Ar46, q46, S46, M46, H46, G46⟩ := id fk45
  have hin47 := inb_of (j := (0 : Int32)) S46 ⟨by decide, by decide⟩
  have fk49 := (fk29.other W34 (Or.inl ne_a1_bn))
  obtain ⟨T50, X50, e50, st50⟩ := gF X44 hx hZ hown (ww hw 24 rfl) e44 fk49 (g := (mkF m 50 #[vR a1, vI 2, vI 1, vI 4, vI 0, vR s0, vI 0, vI 0] [iR a1, iI 0])) rfl rfl (hb hby d7_50)
  obtain ⟨cl51, Ar51, q51, S51, M51, H51, G51⟩ := id V34
  have hin52 := inb_of (j := (0 : Int32)) S51 ⟨by decide, by decide⟩
  have fk54 := (((V_s0.other W22 (Ne.symm ne_bn_s0)).other W28 (Ne.symm ne_bc_s0)).other W34 (Ne.symm ne_bn_s0))
  obtain ⟨cl55, Ar55, q55, S55, M55, H55, G55⟩ := id fk54
  have hin56 := inb_of (j := (0 : Int32)) S55 ⟨by decide, by decide⟩
  have hin58 := inb_of (j := (0 : Int32)) S55 ⟨by decide, by decide⟩
  have hin60 := inb_of (j := (0 : Int32)) S55 ⟨by decide, by decide⟩
  obtain ⟨T61, h61, X61, e61, W61, st61⟩ := stI X50 hx hZ e50 Ar55 (j := (0 : Int32)) hin60 (g := (mkF m 80 #[vR a1, vI 2, vI 1, vI 4, vI 0, vR s0, vI 1, vI 0] [iI w0_, iI 0, iR s0])) rfl rfl (hb hby d7_80)
  have V61 : Arv Z h61 s0 q0 .int (4 : Int32) (own_bs [w0_, w1_, w2_, w3_]) (.int (0 : Int32)) := Arv.set Ar55 q55 S55 M55 H55 G55 rfl W61 0 rfl (Nat.le_of_ble_eq_true rfl)
  have K61 : Keep h0 h61 [a1, bc, bn, s0, s1, s2] := K34.wr W61 (Or.inl (List.mem_of_getElem? (i := 3) rfl))
  have N61 := Fr.snoc X61 N34 g_s0
  have fk62 := (fk49.other W61 (Or.inl ne_a1_s0))
  obtain ⟨T63, X63, e63, st63⟩ := gF X61 hx hZ hown (ww hw 24 rfl) e61 fk62 (g := (mkF m 50 #[vR a1, vI 2, vI 1, vI 4, vI 0, vR s0, vI 1, vI 1] [iR a1, iI 1])) rfl rfl (hb hby d7_50)
  have fk64 := (V34.other W61 ne_bn_s0)
  obtain ⟨cl65, Ar65, q65, S65, M65, H65, G65⟩ := id fk64
  have hin66 := inb_of (j := (0 : Int32)) S65 ⟨by decide, by decide⟩
  obtain ⟨T68, X68, e68, st68⟩ := gF X63 hx hZ hown (ww hw 24 rfl) e63 fk62 (g := (mkF m 88 #[vR a1, vI 2, vI 1, vI 4, vI 0, vR s0, vI 1, vI 1] [iR a1])) rfl rfl (hb hby d7_88)
  have hin69 := inb_of (j := (0 : Int32)) S65 ⟨by decide, by decide⟩
  obtain ⟨T70, h70, X70, e70, W70, st70⟩ := stI X68 hx hZ e68 Ar65 (j := (0 : Int32)) hin69 (g := (mkF m 95 #[vR a1, vI 2, vI 1, vI 4, vI 0, vR s0, vI 1, vI 1] [iI 1, iI 0, iR bn])) rfl rfl (hb hby d7_95)
  have V70 : Arv Z h70 bn kn .int (16 : Int32) (own_bs [1, 0, 0, 0, 0, 0, 0, 0, 0, 0, 0, 0, 0, 0, 0, 0]) (.int (0 : Int32)) := Arv.set Ar65 q65 S65 M65 H65 G65 rfl W70 0 rfl (Nat.le_of_ble_eq_true rfl)
  have K70 : Keep h0 h70 [a1, bc, bn, s0, s1, s2] := K61.wr W70 (Or.inl (List.mem_of_getElem? (i := 2) rfl))
  have N70 := Fr.snoc X70 N61 g_bn
  have fk71 := ((fk43.other W61 (Or.inl ne_a1_s0)).other W70 (Or.inl ne_a1_bn))
  obtain ⟨T72, X72, e72, st72⟩ := gF X70 hx hZ hown (ww hw 22 rfl) e70 fk71 (g := (mkF m 100 #[vR a1, vI 2, vI 0, vI 4, vI 0, vR s0, vI 1, vI 1] [iR a1])) rfl rfl (hb hby d7_100)
  have fk73 := ((fk45.other W61 ne_bc_s0).other W70 ne_bc_bn)
  obtain ⟨cl74, Ar74, q74, S74, M74, H74, G74⟩ := id fk73
  have hin75 := inb_of (j := (4 : Int32)) S74 ⟨by decide, by decide⟩
  obtain ⟨T76, h76, X76, e76, W76, st76⟩ := stR X72 hx hZ e72 Ar74 (j := (4 : Int32)) (v := .null) hin75 rfl (Or.inl rfl) (g := (mkF m 105 #[vR a1, vI 2, vI 0, vI 4, vI 0, vR s0, vI 1, vI 1] [.null, iI 4, iR bc])) rfl rfl (hb hby d7_105)
  have V76 : Arv Z h76 bc kc (.array .int) (16 : Int32) [(.ref s0), (.ref s1), .null, .null, .null, .null, .null, .null, .null, .null, .null, .null, .null, .null, .null, .null] .null := Arv.set Ar74 q74 S74 M74 H74 G74 rfl W76 4 rfl (Nat.le_of_ble_eq_true rfl)
  have K76 : Keep h0 h76 [a1, bc, bn, s0, s1, s2] := K70.wr W76 (Or.inl (List.mem_of_getElem? (i := 1) rfl))
  have N76 := Fr.snoc X76 N70 g_bc
  have fk77 := ((fk62.other W70 (Or.inl ne_a1_bn)).other W76 (Or.inl ne_a1_bc))
  obtain ⟨T78, X78, e78, st78⟩ := gF X76 hx hZ hown (ww hw 24 rfl) e76 fk77 (g := (mkF m 107 #[vR a1, vI 2, vI 0, vI 4, vI 0, vR s0, vI 1, vI 1] [iR a1])) rfl rfl (hb hby d7_107)
  have fk79 := (V70.other W76 (Ne.symm ne_bc_bn))
  obtain ⟨cl80, Ar80, q80, S80, M80, H80, G80⟩ := id fk79
  have hin81 := inb_of (j := (4 : Int32)) S80 ⟨by decide, by decide⟩
  obtain ⟨T82, h82, X82, e82, W82, st82⟩ := stI X78 hx hZ e78 Ar80 (j := (4 : Int32)) hin81 (g := (mkF m 112 #[vR a1, vI 2, vI 0, vI 4, vI 0, vR s0, vI 1, vI 1] [iI 0, iI 4, iR bn])) rfl rfl (hb hby d7_112)
  have V82 : Arv Z h82 bn kn .int (16 : Int32) (own_bs [1, 0, 0, 0, 0, 0, 0, 0, 0, 0, 0, 0, 0, 0, 0, 0]) (.int (0 : Int32)) := Arv.set Ar80 q80 S80 M80 H80 G80 rfl W82 4 rfl (Nat.le_of_ble_eq_true rfl)
  have K82 : Keep h0 h82 [a1, bc, bn, s0, s1, s2] := K76.wr W82 (Or.inl (List.mem_of_getElem? (i := 2) rfl))
  have N82 := Fr.snoc X82 N76 g_bn
  have fk83 := ((((fk35.other W61 (Or.inl ne_a1_s0)).other W70 (Or.inl ne_a1_bn)).other W76 (Or.inl ne_a1_bc)).other W82 (Or.inl ne_a1_bn))
  obtain ⟨T84, X84, e84, st84⟩ := gF X82 hx hZ hown (ww hw 10 rfl) e82 fk83 (g := (mkF m 6 #[vR a1, vI 2, vI 0, vI 5, vI 0, vR s0, vI 1, vI 1] [iR a1, iI 5])) rfl rfl (hb hby d7_6)
  have fk85 := ((((fk37.other W61 (Or.inl ne_a1_s0)).other W70 (Or.inl ne_a1_bn)).other W76 (Or.inl ne_a1_bc)).other W82 (Or.inl ne_a1_bn))
  obtain ⟨T86, X86, e86, st86⟩ := gF X84 hx hZ hown (ww hw 18 rfl) e84 fk85 (g := (mkF m 13 #[vR a1, vI 2, vI 0, vI 5, vI 0, vR s0, vI 1, vI 1] [iR a1])) rfl rfl (hb hby d7_13)
  have fk87 := ((((fk39.other W61 ne_bp_s0).other W70 ne_bp_bn).other W76 ne_bp_bc).other W82 ne_bp_bn)
  obtain ⟨cl88, Ar88, q88, S88, M88, H88, G88⟩ := id fk87
  have hin89 := inb_of (j := (5 : Int32)) S88 ⟨by decide, by decide⟩
  have hat90 : cl88.slots[((5 : Int32)).toNatClampNeg]? = some (.int (2 : Int32)) := Has.at H88 hin89 (by rw [own_bsget]; exact congrArg Value.int hpr5)
  have fk91 := ((fk71.other W76 (Or.inl ne_a1_bc)).other W82 (Or.inl ne_a1_bn))
  obtain ⟨T92, X92, e92, st92⟩ := gF X86 hx hZ hown (ww hw 22 rfl) e86 fk91 (g := (mkF m 100 #[vR a1, vI 2, vI 0, vI 5, vI 2, vR s0, vI 1, vI 1] [iR a1])) rfl rfl (hb hby d7_100)
  have fk93 := (V76.other W82 ne_bc_bn)
  obtain ⟨cl94, Ar94, q94, S94, M94, H94, G94⟩ := id fk93
  have hin95 := inb_of (j := (5 : Int32)) S94 ⟨by decide, by decide⟩
  obtain ⟨T96, h96, X96, e96, W96, st96⟩ := stR X92 hx hZ e92 Ar94 (j := (5 : Int32)) (v := .null) hin95 rfl (Or.inl rfl) (g := (mkF m 105 #[vR a1, vI 2, vI 0, vI 5, vI 2, vR s0, vI 1, vI 1] [.null, iI 5, iR bc])) rfl rfl (hb hby d7_105)
  have V96 : Arv Z h96 bc kc (.array .int) (16 : Int32) [(.ref s0), (.ref s1), .null, .null, .null, .null, .null, .null, .null, .null, .null, .null, .null, .null, .null, .null] .null := Arv.set Ar94 q94 S94 M94 H94 G94 rfl W96 5 rfl (Nat.le_of_ble_eq_true rfl)
  have K96 : Keep h0 h96 [a1, bc, bn, s0, s1, s2] := K82.wr W96 (Or.inl (List.mem_of_getElem? (i := 1) rfl))
  have N96 := Fr.snoc X96 N82 g_bc
  have fk97 := ((fk77.other W82 (Or.inl ne_a1_bn)).other W96 (Or.inl ne_a1_bc))
  obtain ⟨T98, X98, e98, st98⟩ := gF X96 hx hZ hown (ww hw 24 rfl) e96 fk97 (g := (mkF m 107 #[vR a1, vI 2, vI 0, vI 5, vI 2, vR s0, vI 1, vI 1] [iR a1])) rfl rfl (hb hby d7_107)
  have fk99 := (V82.other W96 (Ne.symm ne_bc_bn))
  obtain ⟨cl100, Ar100, q100, S100, M100, H100, G100⟩ := id fk99
  have hin101 := inb_of (j := (5 : Int32)) S100 ⟨by decide, by decide⟩
  obtain ⟨T102, h102, X102, e102, W102, st102⟩ := stI X98 hx hZ e98 Ar100 (j := (5 : Int32)) hin101 (g := (mkF m 112 #[vR a1, vI 2, vI 0, vI 5, vI 2, vR s0, vI 1, vI 1] [iI 0, iI 5, iR bn])) rfl rfl (hb hby d7_112)
  have V102 : Arv Z h102 bn kn .int (16 : Int32) (own_bs [1, 0, 0, 0, 0, 0, 0, 0, 0, 0, 0, 0, 0, 0, 0, 0]) (.int (0 : Int32)) := Arv.set Ar100 q100 S100 M100 H100 G100 rfl W102 5 rfl (Nat.le_of_ble_eq_true rfl)
  have K102 : Keep h0 h102 [a1, bc, bn, s0, s1, s2] := K96.wr W102 (Or.inl (List.mem_of_getElem? (i := 2) rfl))
  have N102 := Fr.snoc X102 N96 g_bn
  have fk103 := ((fk83.other W96 (Or.inl ne_a1_bc)).other W102 (Or.inl ne_a1_bn))
  obtain ⟨T104, X104, e104, st104⟩ := gF X102 hx hZ hown (ww hw 10 rfl) e102 fk103 (g := (mkF m 6 #[vR a1, vI 2, vI 0, vI 6, vI 2, vR s0, vI 1, vI 1] [iR a1, iI 6])) rfl rfl (hb hby d7_6)
  have fk105 := ((fk85.other W96 (Or.inl ne_a1_bc)).other W102 (Or.inl ne_a1_bn))
  obtain ⟨T106, X106, e106, st106⟩ := gF X104 hx hZ hown (ww hw 18 rfl) e104 fk105 (g := (mkF m 13 #[vR a1, vI 2, vI 0, vI 6, vI 2, vR s0, vI 1, vI 1] [iR a1])) rfl rfl (hb hby d7_13)
  have fk107 := ((fk87.other W96 ne_bp_bc).other W102 ne_bp_bn)
  obtain ⟨cl108, Ar108, q108, S108, M108, H108, G108⟩ := id fk107
  have hin109 := inb_of (j := (6 : Int32)) S108 ⟨by decide, by decide⟩
  have hat110 : cl108.slots[((6 : Int32)).toNatClampNeg]? = some (.int (2 : Int32)) := Has.at H108 hin109 (by rw [own_bsget]; exact congrArg Value.int hpr6)
  have fk111 := ((fk91.other W96 (Or.inl ne_a1_bc)).other W102 (Or.inl ne_a1_bn))
  obtain ⟨T112, X112, e112, st112⟩ := gF X106 hx hZ hown (ww hw 22 rfl) e106 fk111 (g := (mkF m 100 #[vR a1, vI 2, vI 0, vI 6, vI 2, vR s0, vI 1, vI 1] [iR a1])) rfl rfl (hb hby d7_100)
  have fk113 := (V96.other W102 ne_bc_bn)
  obtain ⟨cl114, Ar114, q114, S114, M114, H114, G114⟩ := id fk113
  have hin115 := inb_of (j := (6 : Int32)) S114 ⟨by decide, by decide⟩
  obtain ⟨T116, h116, X116, e116, W116, st116⟩ := stR X112 hx hZ e112 Ar114 (j := (6 : Int32)) (v := .null) hin115 rfl (Or.inl rfl) (g := (mkF m 105 #[vR a1, vI 2, vI 0, vI 6, vI 2, vR s0, vI 1, vI 1] [.null, iI 6, iR bc])) rfl rfl (hb hby d7_105)
  have V116 : Arv Z h116 bc kc (.array .int) (16 : Int32) [(.ref s0), (.ref s1), .null, .null, .null, .null, .null, .null, .null, .null, .null, .null, .null, .null, .null, .null] .null := Arv.set Ar114 q114 S114 M114 H114 G114 rfl W116 6 rfl (Nat.le_of_ble_eq_true rfl)
  have K116 : Keep h0 h116 [a1, bc, bn, s0, s1, s2] := K102.wr W116 (Or.inl (List.mem_of_getElem? (i := 1) rfl))
  have N116 := Fr.snoc X116 N102 g_bc
  have fk117 := ((fk97.other W102 (Or.inl ne_a1_bn)).other W116 (Or.inl ne_a1_bc))
  obtain ⟨T118, X118, e118, st118⟩ := gF X116 hx hZ hown (ww hw 24 rfl) e116 fk117 (g := (mkF m 107 #[vR a1, vI 2, vI 0, vI 6, vI 2, vR s0, vI 1, vI 1] [iR a1])) rfl rfl (hb hby d7_107)
  have fk119 := (V102.other W116 (Ne.symm ne_bc_bn))
  obtain ⟨cl120, Ar120, q120, S120, M120, H120, G120⟩ := id fk119
  have hin121 := inb_of (j := (6 : Int32)) S120 ⟨by decide, by decide⟩
  obtain ⟨T122, h122, X122, e122, W122, st122⟩ := stI X118 hx hZ e118 Ar120 (j := (6 : Int32)) hin121 (g := (mkF m 112 #[vR a1, vI 2, vI 0, vI 6, vI 2, vR s0, vI 1, vI 1] [iI 0, iI 6, iR bn])) rfl rfl (hb hby d7_112)
  have V122 : Arv Z h122 bn kn .int (16 : Int32) (own_bs [1, 0, 0, 0, 0, 0, 0, 0, 0, 0, 0, 0, 0, 0, 0, 0]) (.int (0 : Int32)) := Arv.set Ar120 q120 S120 M120 H120 G120 rfl W122 6 rfl (Nat.le_of_ble_eq_true rfl)
  have K122 : Keep h0 h122 [a1, bc, bn, s0, s1, s2] := K116.wr W122 (Or.inl (List.mem_of_getElem? (i := 2) rfl))
  have N122 := Fr.snoc X122 N116 g_bn
  have fk123 := ((fk103.other W116 (Or.inl ne_a1_bc)).other W122 (Or.inl ne_a1_bn))
  obtain ⟨T124, X124, e124, st124⟩ := gF X122 hx hZ hown (ww hw 10 rfl) e122 fk123 (g := (mkF m 6 #[vR a1, vI 2, vI 0, vI 7, vI 2, vR s0, vI 1, vI 1] [iR a1, iI 7])) rfl rfl (hb hby d7_6)
  have fk125 := (((((((((((E_a1.wr W22).wr W28).wr W34).wr W61).wr W70).wr W76).wr W82).wr W96).wr W102).wr W116).wr W122)
  obtain ⟨T126, h126, X126, e126, W126, st126⟩ := putF X124 hx hZ hown (host := "") (Or.inl (ww hw 10 rfl)) Via.refl e124 fk123 fk125 (Or.inl (ww hw 11 rfl)) (ww hw 2 rfl) (ty := .int) (by decide) rfl rfl (g := (mkF m 121 #[vR a1, vI 2, vI 0, vI 7, vI 2, vR s0, vI 1, vI 1] [iI 2, iR a1])) rfl rfl (hb hby d7_121)
  have Fw126 := fk123.same W126
  have K126 : Keep h0 h126 [a1, bc, bn, s0, s1, s2] := K122.wr W126 (Or.inl (List.mem_of_getElem? (i := 0) rfl))
  have N126 := Fr.snoc X126 N122 g_a1
  obtain ⟨fs, hr, hrun, hended, hW, hsame⟩ := X126.leave (v := none) (fun _ => rfl)
  have fk127 := (fk125.wr W126)
  have fk128 := ((((((((((((F_items.other W22 (Or.inl ne_a1_bn)).other W28 (Or.inl ne_a1_bc)).other W34 (Or.inl ne_a1_bn)).other W61 (Or.inl ne_a1_s0)).other W70 (Or.inl ne_a1_bn)).other W76 (Or.inl ne_a1_bc)).other W82 (Or.inl ne_a1_bn)).other W96 (Or.inl ne_a1_bc)).other W102 (Or.inl ne_a1_bn)).other W116 (Or.inl ne_a1_bc)).other W122 (Or.inl ne_a1_bn)).other W126 (Or.inr (slot_ne (Or.inl (ww hw 14 rfl)) (Or.inl (ww hw 11 rfl)) (by decide) (t := (.array .int)) (t' := .int) (by decide) (by decide))))
  have fk129 := ((((((((((((V_bi.other W22 ne_bi_bn).other W28 ne_bi_bc).other W34 ne_bi_bn).other W61 ne_bi_s0).other W70 ne_bi_bn).other W76 ne_bi_bc).other W82 ne_bi_bn).other W96 ne_bi_bc).other W102 ne_bi_bn).other W116 ne_bi_bc).other W122 ne_bi_bn).other W126 (Ne.symm ne_a1_bi))
  have fk130 := ((((((((((((F_sameEvents.other W22 (Or.inl ne_a1_bn)).other W28 (Or.inl ne_a1_bc)).other W34 (Or.inl ne_a1_bn)).other W61 (Or.inl ne_a1_s0)).other W70 (Or.inl ne_a1_bn)).other W76 (Or.inl ne_a1_bc)).other W82 (Or.inl ne_a1_bn)).other W96 (Or.inl ne_a1_bc)).other W102 (Or.inl ne_a1_bn)).other W116 (Or.inl ne_a1_bc)).other W122 (Or.inl ne_a1_bn)).other W126 (Or.inr (slot_ne (Or.inl (ww hw 17 rfl)) (Or.inl (ww hw 11 rfl)) (by decide) (t := (.array .boolean)) (t' := .int) (by decide) (by decide))))
  have fk131 := ((((((((((((V_bf.other W22 ne_bf_bn).other W28 ne_bf_bc).other W34 ne_bf_bn).other W61 ne_bf_s0).other W70 ne_bf_bn).other W76 ne_bf_bc).other W82 ne_bf_bn).other W96 ne_bf_bc).other W102 ne_bf_bn).other W116 ne_bf_bc).other W122 ne_bf_bn).other W126 (Ne.symm ne_a1_bf))
  have fk132 := (((fk105.other W116 (Or.inl ne_a1_bc)).other W122 (Or.inl ne_a1_bn)).other W126 (Or.inr (slot_ne (Or.inl (ww hw 19 rfl)) (Or.inl (ww hw 11 rfl)) (by decide) (t := (.array .int)) (t' := .int) (by decide) (by decide))))
  have fk133 := (((fk107.other W116 ne_bp_bc).other W122 ne_bp_bn).other W126 (Ne.symm ne_a1_bp))
  have fk134 := (((fk111.other W116 (Or.inl ne_a1_bc)).other W122 (Or.inl ne_a1_bn)).other W126 (Or.inr (slot_ne (Or.inl (ww hw 23 rfl)) (Or.inl (ww hw 11 rfl)) (by decide) (t := (.array (.array .int))) (t' := .int) (by decide) (by decide))))
  have fk135 := ((V116.other W122 ne_bc_bn).other W126 (Ne.symm ne_a1_bc))
  have fk136 := ((fk117.other W122 (Or.inl ne_a1_bn)).other W126 (Or.inr (slot_ne (Or.inl (ww hw 25 rfl)) (Or.inl (ww hw 11 rfl)) (by decide) (t := (.array .int)) (t' := .int) (by decide) (by decide))))
  have fk137 := (V122.other W126 (Ne.symm ne_a1_bn))
  have fk138 := ((((((((V61.other W70 (Ne.symm ne_bn_s0)).other W76 (Ne.symm ne_bc_s0)).other W82 (Ne.symm ne_bn_s0)).other W96 (Ne.symm ne_bc_s0)).other W102 (Ne.symm ne_bn_s0)).other W116 (Ne.symm ne_bc_s0)).other W122 (Ne.symm ne_bn_s0)).other W126 (Ne.symm ne_a1_s0))
  have fk139 := ((((((((((((E_s0.wr W22).wr W28).wr W34).wr W61).wr W70).wr W76).wr W82).wr W96).wr W102).wr W116).wr W122).wr W126)
  have fk140 := ((((((((((((V_s1.other W22 (Ne.symm ne_bn_s1)).other W28 (Ne.symm ne_bc_s1)).other W34 (Ne.symm ne_bn_s1)).other W61 (Ne.symm ne_s0_s1)).other W70 (Ne.symm ne_bn_s1)).other W76 (Ne.symm ne_bc_s1)).other W82 (Ne.symm ne_bn_s1)).other W96 (Ne.symm ne_bc_s1)).other W102 (Ne.symm ne_bn_s1)).other W116 (Ne.symm ne_bc_s1)).other W122 (Ne.symm ne_bn_s1)).other W126 (Ne.symm ne_a1_s1))
  have fk141 := ((((((((((((E_s1.wr W22).wr W28).wr W34).wr W61).wr W70).wr W76).wr W82).wr W96).wr W102).wr W116).wr W122).wr W126)
  have fk142 := ((((((((((((V_s2.other W22 (Ne.symm ne_bn_s2)).other W28 (Ne.symm ne_bc_s2)).other W34 (Ne.symm ne_bn_s2)).other W61 (Ne.symm ne_s0_s2)).other W70 (Ne.symm ne_bn_s2)).other W76 (Ne.symm ne_bc_s2)).other W82 (Ne.symm ne_bn_s2)).other W96 (Ne.symm ne_bc_s2)).other W102 (Ne.symm ne_bn_s2)).other W116 (Ne.symm ne_bc_s2)).other W122 (Ne.symm ne_bn_s2)).other W126 (Ne.symm ne_a1_s2))
  have fk143 := ((((((((((((E_s2.wr W22).wr W28).wr W34).wr W61).wr W70).wr W76).wr W82).wr W96).wr W102).wr W116).wr W122).wr W126)
  refine ⟨_, _, ?_, hrun, hended, _, _, rfl, ?_, ⟨_, rfl⟩, hW, hsame.mono (by decide) (by decide)⟩
  · refine XS.iloadN X0.here hx rfl (hb hby d7_4) rfl ?_
    refine XS.aloadN X0.here hx rfl (hb hby d7_5) rfl rfl ?_
    refine st1 _ ?_
    refine XS.icmpNo X1.here hx rfl (hb hby d7_9) rfl (tlt (by decide : (3 : Int32) < (7 : Int32))).2.1 ?_
    refine XS.aloadN X1.here hx rfl (hb hby d7_12) rfl rfl ?_
    refine st2 _ ?_
    refine XS.iloadN X2.here hx rfl (hb hby d7_16) rfl ?_
    refine X2.iaload hx (j := (3 : Int32)) (v := (.int (1 : Int32))) (by rw [e2]; exact Ar3.1) (State.isArrayOf_alike hZ.alike Ar3.2.1) Ar3.2.2 hin4 hat5 (g := (mkF m 17 #[vR a1, vI 2, vI 0, vI 3, vI c4_, vR c5_, vI c6_, vI c7_] [iI 3, iR bp])) rfl rfl (hb hby d7_17) _ ?_
    refine XS.istore X2.here hx rfl (hb hby d7_18) rfl (l' := #[vR a1, vI 2, vI 0, vI 3, vI 1, vR c5_, vI c6_, vI c7_]) rfl ?_
    refine XS.iload X2.here hx rfl (hb hby d7_20) rfl ?_
    refine XS.iloadN X2.here hx rfl (hb hby d7_22) rfl ?_
    refine XS.icmpNo X2.here hx rfl (hb hby d7_23) rfl (tlt (by decide : (1 : Int32) < (2 : Int32))).2.1 ?_
    refine XS.iload X2.here hx rfl (hb hby d7_26) rfl ?_
    refine XS.iloadN X2.here hx rfl (hb hby d7_28) rfl ?_
    refine XS.icmpNo X2.here hx rfl (hb hby d7_29) rfl (feq (by decide : ¬ ((1 : Int32) = (0 : Int32)))).1 ?_
    refine XS.aloadN X2.here hx rfl (hb hby d7_32) rfl rfl ?_
    show SA T2 m 33 #[vR a1, vI 2, vI 0, vI 3, vI 1, vR c5_, vI c6_, vI c7_] [iR a1]
    refine st6 _ ?_
    refine XS.iload X6.here hx rfl (hb hby d7_36) rfl ?_
    refine X6.aaload hx (j := (1 : Int32)) (v := (.ref s1)) (by rw [e6]; exact Ar7.1) (State.isArrayOf_alike hZ.alike Ar7.2.1) rfl Ar7.2.2 hin8 (Has.at H7 hin8 rfl) (g := (mkF m 38 #[vR a1, vI 2, vI 0, vI 3, vI 1, vR c5_, vI c6_, vI c7_] [iI 1, iR bc])) rfl rfl (hb hby d7_38) _ ?_
    refine XS.astore X6.here hx rfl (hb hby d7_39) rfl rfl (l' := #[vR a1, vI 2, vI 0, vI 3, vI 1, vR s1, vI c6_, vI c7_]) rfl ?_
    refine XS.iconst X6.here hx rfl (hb hby d7_41) ?_
    refine XS.istore X6.here hx rfl (hb hby d7_42) rfl (l' := #[vR a1, vI 2, vI 0, vI 3, vI 1, vR s1, vI 0, vI c7_]) rfl ?_
    refine XS.iconst X6.here hx rfl (hb hby d7_44) ?_
    refine XS.istore X6.here hx rfl (hb hby d7_45) rfl (l' := #[vR a1, vI 2, vI 0, vI 3, vI 1, vR s1, vI 0, vI 0]) rfl ?_
    refine XS.iload X6.here hx rfl (hb hby d7_47) rfl ?_
    refine XS.aloadN X6.here hx rfl (hb hby d7_49) rfl rfl ?_
    refine st10 _ ?_
    refine XS.iload X10.here hx rfl (hb hby d7_53) rfl ?_
    refine X10.iaload hx (j := (1 : Int32)) (v := (.int (1 : Int32))) (by rw [e10]; exact Ar11.1) (State.isArrayOf_alike hZ.alike Ar11.2.1) Ar11.2.2 hin12 (Has.at H11 hin12 rfl) (g := (mkF m 55 #[vR a1, vI 2, vI 0, vI 3, vI 1, vR s1, vI 0, vI 0] [iI 1, iR bn, iI 0])) rfl rfl (hb hby d7_55) _ ?_
    refine XS.icmpNo X10.here hx rfl (hb hby d7_56) rfl (tlt (by decide : (0 : Int32) < (1 : Int32))).2.1 ?_
    refine XS.aload X10.here hx rfl (hb hby d7_59) rfl rfl ?_
    refine XS.iload X10.here hx rfl (hb hby d7_61) rfl ?_
    refine X10.iaload hx (j := (0 : Int32)) (v := (.int (3 : Int32))) (by rw [e10]; exact Ar14.1) (State.isArrayOf_alike hZ.alike Ar14.2.1) Ar14.2.2 hin15 (Has.at H14 hin15 rfl) (g := (mkF m 63 #[vR a1, vI 2, vI 0, vI 3, vI 1, vR s1, vI 0, vI 0] [iI 0, iR s1])) rfl rfl (hb hby d7_63) _ ?_
    refine XS.iloadN X10.here hx rfl (hb hby d7_64) rfl ?_
    refine XS.icmpYes X10.here hx rfl (pc0 := 65) (pc' := 81) rfl (hb hby d7_65) rfl (flt (by decide : ¬ ((3 : Int32) < (2 : Int32)))).2.1 (by decide) (by decide) ?_
    refine XS.iinc X10.here hx rfl (hb hby d7_81) rfl (l' := #[vR a1, vI 2, vI 0, vI 3, vI 1, vR s1, vI 0, vI ((0 : Int32) + (1 : Int32))]) rfl ?_
    rw [(by decide : ((0 : Int32) + (1 : Int32)) = (1 : Int32))]
    refine XS.goto X10.here hx rfl (pc0 := 84) (pc' := 47) rfl (hb hby d7_84) (by decide) (by decide) ?_
    refine XS.iload X10.here hx rfl (hb hby d7_47) rfl ?_
    refine XS.aloadN X10.here hx rfl (hb hby d7_49) rfl rfl ?_
    refine st17 _ ?_
    refine XS.iload X17.here hx rfl (hb hby d7_53) rfl ?_
    refine X17.iaload hx (j := (1 : Int32)) (v := (.int (1 : Int32))) (by rw [e17]; exact Ar11.1) (State.isArrayOf_alike hZ.alike Ar11.2.1) Ar11.2.2 hin18 (Has.at H11 hin18 rfl) (g := (mkF m 55 #[vR a1, vI 2, vI 0, vI 3, vI 1, vR s1, vI 0, vI 1] [iI 1, iR bn, iI 1])) rfl rfl (hb hby d7_55) _ ?_
    refine XS.icmpYes X17.here hx rfl (pc0 := 56) (pc' := 87) rfl (hb hby d7_56) rfl (flt (by decide : ¬ ((1 : Int32) < (1 : Int32)))).2.1 (by decide) (by decide) ?_
    refine XS.aloadN X17.here hx rfl (hb hby d7_87) rfl rfl ?_
    refine st20 _ ?_
    refine XS.iload X20.here hx rfl (hb hby d7_91) rfl ?_
    refine XS.iload X20.here hx rfl (hb hby d7_93) rfl ?_
    refine st22 _ ?_
    refine XS.iload X22.here hx rfl (hb hby d7_96) rfl ?_
    refine XS.istoreN X22.here hx rfl (hb hby d7_98) rfl (l' := #[vR a1, vI 2, vI 1, vI 3, vI 1, vR s1, vI 0, vI 1]) rfl ?_
    refine XS.aloadN X22.here hx rfl (hb hby d7_99) rfl rfl ?_
    refine st24 _ ?_
    refine XS.iloadN X24.here hx rfl (hb hby d7_103) rfl ?_
    refine XS.aconstNull X24.here hx rfl (hb hby d7_104) ?_
    refine st28 _ ?_
    refine XS.aloadN X28.here hx rfl (hb hby d7_106) rfl rfl ?_
    refine st30 _ ?_
    refine XS.iloadN X30.here hx rfl (hb hby d7_110) rfl ?_
    refine XS.iconst X30.here hx rfl (hb hby d7_111) ?_
    refine st34 _ ?_
    refine XS.iinc X34.here hx rfl (hb hby d7_113) rfl (l' := #[vR a1, vI 2, vI 1, vI ((3 : Int32) + (1 : Int32)), vI 1, vR s1, vI 0, vI 1]) rfl ?_
    rw [(by decide : ((3 : Int32) + (1 : Int32)) = (4 : Int32))]
    refine XS.goto X34.here hx rfl (pc0 := 116) (pc' := 4) rfl (hb hby d7_116) (by decide) (by decide) ?_
    refine XS.iloadN X34.here hx rfl (hb hby d7_4) rfl ?_
    refine XS.aloadN X34.here hx rfl (hb hby d7_5) rfl rfl ?_
    refine st36 _ ?_
    refine XS.icmpNo X36.here hx rfl (hb hby d7_9) rfl (tlt (by decide : (4 : Int32) < (7 : Int32))).2.1 ?_
    refine XS.aloadN X36.here hx rfl (hb hby d7_12) rfl rfl ?_
    refine st38 _ ?_
    refine XS.iloadN X38.here hx rfl (hb hby d7_16) rfl ?_
    refine X38.iaload hx (j := (4 : Int32)) (v := (.int (0 : Int32))) (by rw [e38]; exact Ar40.1) (State.isArrayOf_alike hZ.alike Ar40.2.1) Ar40.2.2 hin41 hat42 (g := (mkF m 17 #[vR a1, vI 2, vI 1, vI 4, vI 1, vR s1, vI 0, vI 1] [iI 4, iR bp])) rfl rfl (hb hby d7_17) _ ?_
    refine XS.istore X38.here hx rfl (hb hby d7_18) rfl (l' := #[vR a1, vI 2, vI 1, vI 4, vI 0, vR s1, vI 0, vI 1]) rfl ?_
    refine XS.iload X38.here hx rfl (hb hby d7_20) rfl ?_
    refine XS.iloadN X38.here hx rfl (hb hby d7_22) rfl ?_
    refine XS.icmpNo X38.here hx rfl (hb hby d7_23) rfl (tlt (by decide : (0 : Int32) < (2 : Int32))).2.1 ?_
    refine XS.iload X38.here hx rfl (hb hby d7_26) rfl ?_
    refine XS.iloadN X38.here hx rfl (hb hby d7_28) rfl ?_
    refine XS.icmpNo X38.here hx rfl (hb hby d7_29) rfl (feq (by decide : ¬ ((0 : Int32) = (1 : Int32)))).1 ?_
    refine XS.aloadN X38.here hx rfl (hb hby d7_32) rfl rfl ?_
    show SA T38 m 33 #[vR a1, vI 2, vI 1, vI 4, vI 0, vR s1, vI 0, vI 1] [iR a1]
    refine st44 _ ?_
    refine XS.iload X44.here hx rfl (hb hby d7_36) rfl ?_
    refine X44.aaload hx (j := (0 : Int32)) (v := (.ref s0)) (by rw [e44]; exact Ar46.1) (State.isArrayOf_alike hZ.alike Ar46.2.1) rfl Ar46.2.2 hin47 (Has.at H46 hin47 rfl) (g := (mkF m 38 #[vR a1, vI 2, vI 1, vI 4, vI 0, vR s1, vI 0, vI 1] [iI 0, iR bc])) rfl rfl (hb hby d7_38) _ ?_
    refine XS.astore X44.here hx rfl (hb hby d7_39) rfl rfl (l' := #[vR a1, vI 2, vI 1, vI 4, vI 0, vR s0, vI 0, vI 1]) rfl ?_
    refine XS.iconst X44.here hx rfl (hb hby d7_41) ?_
    refine XS.istore X44.here hx rfl (hb hby d7_42) rfl (l' := #[vR a1, vI 2, vI 1, vI 4, vI 0, vR s0, vI 0, vI 1]) rfl ?_
    refine XS.iconst X44.here hx rfl (hb hby d7_44) ?_
    refine XS.istore X44.here hx rfl (hb hby d7_45) rfl (l' := #[vR a1, vI 2, vI 1, vI 4, vI 0, vR s0, vI 0, vI 0]) rfl ?_
    refine XS.iload X44.here hx rfl (hb hby d7_47) rfl ?_
    refine XS.aloadN X44.here hx rfl (hb hby d7_49) rfl rfl ?_
    refine st50 _ ?_
    refine XS.iload X50.here hx rfl (hb hby d7_53) rfl ?_
    refine X50.iaload hx (j := (0 : Int32)) (v := (.int (1 : Int32))) (by rw [e50]; exact Ar51.1) (State.isArrayOf_alike hZ.alike Ar51.2.1) Ar51.2.2 hin52 (Has.at H51 hin52 rfl) (g := (mkF m 55 #[vR a1, vI 2, vI 1, vI 4, vI 0, vR s0, vI 0, vI 0] [iI 0, iR bn, iI 0])) rfl rfl (hb hby d7_55) _ ?_
    refine XS.icmpNo X50.here hx rfl (hb hby d7_56) rfl (tlt (by decide : (0 : Int32) < (1 : Int32))).2.1 ?_
    refine XS.aload X50.here hx rfl (hb hby d7_59) rfl rfl ?_
    refine XS.iload X50.here hx rfl (hb hby d7_61) rfl ?_
    refine X50.iaload hx (j := (0 : Int32)) (v := (.int w0_)) (by rw [e50]; exact Ar55.1) (State.isArrayOf_alike hZ.alike Ar55.2.1) Ar55.2.2 hin56 (Has.at H55 hin56 rfl) (g := (mkF m 63 #[vR a1, vI 2, vI 1, vI 4, vI 0, vR s0, vI 0, vI 0] [iI 0, iR s0])) rfl rfl (hb hby d7_63) _ ?_
    refine XS.iloadN X50.here hx rfl (hb hby d7_64) rfl ?_
    refine XS.icmpNo X50.here hx rfl (hb hby d7_65) rfl (tlt hw0).2.1 ?_
    refine XS.aload X50.here hx rfl (hb hby d7_68) rfl rfl ?_
    refine XS.iload X50.here hx rfl (hb hby d7_70) rfl ?_
    refine XS.iinc X50.here hx rfl (hb hby d7_72) rfl (l' := #[vR a1, vI 2, vI 1, vI 4, vI 0, vR s0, vI ((0 : Int32) + (1 : Int32)), vI 0]) rfl ?_
    rw [(by decide : ((0 : Int32) + (1 : Int32)) = (1 : Int32))]
    refine XS.aload X50.here hx rfl (hb hby d7_75) rfl rfl ?_
    refine XS.iload X50.here hx rfl (hb hby d7_77) rfl ?_
    refine X50.iaload hx (j := (0 : Int32)) (v := (.int w0_)) (by rw [e50]; exact Ar55.1) (State.isArrayOf_alike hZ.alike Ar55.2.1) Ar55.2.2 hin58 (Has.at H55 hin58 rfl) (g := (mkF m 79 #[vR a1, vI 2, vI 1, vI 4, vI 0, vR s0, vI 1, vI 0] [iI 0, iR s0, iI 0, iR s0])) rfl rfl (hb hby d7_79) _ ?_
    refine st61 _ ?_
    refine XS.iinc X61.here hx rfl (hb hby d7_81) rfl (l' := #[vR a1, vI 2, vI 1, vI 4, vI 0, vR s0, vI 1, vI ((0 : Int32) + (1 : Int32))]) rfl ?_
    rw [(by decide : ((0 : Int32) + (1 : Int32)) = (1 : Int32))]
    refine XS.goto X61.here hx rfl (pc0 := 84) (pc' := 47) rfl (hb hby d7_84) (by decide) (by decide) ?_
    refine XS.iload X61.here hx rfl (hb hby d7_47) rfl ?_
    refine XS.aloadN X61.here hx rfl (hb hby d7_49) rfl rfl ?_
    refine st63 _ ?_
    refine XS.iload X63.here hx rfl (hb hby d7_53) rfl ?_
    refine X63.iaload hx (j := (0 : Int32)) (v := (.int (1 : Int32))) (by rw [e63]; exact Ar65.1) (State.isArrayOf_alike hZ.alike Ar65.2.1) Ar65.2.2 hin66 (Has.at H65 hin66 rfl) (g := (mkF m 55 #[vR a1, vI 2, vI 1, vI 4, vI 0, vR s0, vI 1, vI 1] [iI 0, iR bn, iI 1])) rfl rfl (hb hby d7_55) _ ?_
    refine XS.icmpYes X63.here hx rfl (pc0 := 56) (pc' := 87) rfl (hb hby d7_56) rfl (flt (by decide : ¬ ((1 : Int32) < (1 : Int32)))).2.1 (by decide) (by decide) ?_
    refine XS.aloadN X63.here hx rfl (hb hby d7_87) rfl rfl ?_
    refine st68 _ ?_
    refine XS.iload X68.here hx rfl (hb hby d7_91) rfl ?_
    refine XS.iload X68.here hx rfl (hb hby d7_93) rfl ?_
    refine st70 _ ?_
    refine XS.iload X70.here hx rfl (hb hby d7_96) rfl ?_
    refine XS.istoreN X70.here hx rfl (hb hby d7_98) rfl (l' := #[vR a1, vI 2, vI 0, vI 4, vI 0, vR s0, vI 1, vI 1]) rfl ?_
    refine XS.aloadN X70.here hx rfl (hb hby d7_99) rfl rfl ?_
    refine st72 _ ?_
    refine XS.iloadN X72.here hx rfl (hb hby d7_103) rfl ?_
    refine XS.aconstNull X72.here hx rfl (hb hby d7_104) ?_
    refine st76 _ ?_
    refine XS.aloadN X76.here hx rfl (hb hby d7_106) rfl rfl ?_
    refine st78 _ ?_
    refine XS.iloadN X78.here hx rfl (hb hby d7_110) rfl ?_
    refine XS.iconst X78.here hx rfl (hb hby d7_111) ?_
    refine st82 _ ?_
    refine XS.iinc X82.here hx rfl (hb hby d7_113) rfl (l' := #[vR a1, vI 2, vI 0, vI ((4 : Int32) + (1 : Int32)), vI 0, vR s0, vI 1, vI 1]) rfl ?_
    rw [(by decide : ((4 : Int32) + (1 : Int32)) = (5 : Int32))]
    refine XS.goto X82.here hx rfl (pc0 := 116) (pc' := 4) rfl (hb hby d7_116) (by decide) (by decide) ?_
    refine XS.iloadN X82.here hx rfl (hb hby d7_4) rfl ?_
    refine XS.aloadN X82.here hx rfl (hb hby d7_5) rfl rfl ?_
    refine st84 _ ?_
    refine XS.icmpNo X84.here hx rfl (hb hby d7_9) rfl (tlt (by decide : (5 : Int32) < (7 : Int32))).2.1 ?_
    refine XS.aloadN X84.here hx rfl (hb hby d7_12) rfl rfl ?_
    refine st86 _ ?_
    refine XS.iloadN X86.here hx rfl (hb hby d7_16) rfl ?_
    refine X86.iaload hx (j := (5 : Int32)) (v := (.int (2 : Int32))) (by rw [e86]; exact Ar88.1) (State.isArrayOf_alike hZ.alike Ar88.2.1) Ar88.2.2 hin89 hat90 (g := (mkF m 17 #[vR a1, vI 2, vI 0, vI 5, vI 0, vR s0, vI 1, vI 1] [iI 5, iR bp])) rfl rfl (hb hby d7_17) _ ?_
    refine XS.istore X86.here hx rfl (hb hby d7_18) rfl (l' := #[vR a1, vI 2, vI 0, vI 5, vI 2, vR s0, vI 1, vI 1]) rfl ?_
    refine XS.iload X86.here hx rfl (hb hby d7_20) rfl ?_
    refine XS.iloadN X86.here hx rfl (hb hby d7_22) rfl ?_
    refine XS.icmpYes X86.here hx rfl (pc0 := 23) (pc' := 99) rfl (hb hby d7_23) rfl (flt (by decide : ¬ ((2 : Int32) < (2 : Int32)))).2.1 (by decide) (by decide) ?_
    refine XS.aloadN X86.here hx rfl (hb hby d7_99) rfl rfl ?_
    refine st92 _ ?_
    refine XS.iloadN X92.here hx rfl (hb hby d7_103) rfl ?_
    refine XS.aconstNull X92.here hx rfl (hb hby d7_104) ?_
    refine st96 _ ?_
    refine XS.aloadN X96.here hx rfl (hb hby d7_106) rfl rfl ?_
    refine st98 _ ?_
    refine XS.iloadN X98.here hx rfl (hb hby d7_110) rfl ?_
    refine XS.iconst X98.here hx rfl (hb hby d7_111) ?_
    refine st102 _ ?_
    refine XS.iinc X102.here hx rfl (hb hby d7_113) rfl (l' := #[vR a1, vI 2, vI 0, vI ((5 : Int32) + (1 : Int32)), vI 2, vR s0, vI 1, vI 1]) rfl ?_
    rw [(by decide : ((5 : Int32) + (1 : Int32)) = (6 : Int32))]
    refine XS.goto X102.here hx rfl (pc0 := 116) (pc' := 4) rfl (hb hby d7_116) (by decide) (by decide) ?_
    refine XS.iloadN X102.here hx rfl (hb hby d7_4) rfl ?_
    refine XS.aloadN X102.here hx rfl (hb hby d7_5) rfl rfl ?_
    refine st104 _ ?_
    refine XS.icmpNo X104.here hx rfl (hb hby d7_9) rfl (tlt (by decide : (6 : Int32) < (7 : Int32))).2.1 ?_
    refine XS.aloadN X104.here hx rfl (hb hby d7_12) rfl rfl ?_
    refine st106 _ ?_
    refine XS.iloadN X106.here hx rfl (hb hby d7_16) rfl ?_
    refine X106.iaload hx (j := (6 : Int32)) (v := (.int (2 : Int32))) (by rw [e106]; exact Ar108.1) (State.isArrayOf_alike hZ.alike Ar108.2.1) Ar108.2.2 hin109 hat110 (g := (mkF m 17 #[vR a1, vI 2, vI 0, vI 6, vI 2, vR s0, vI 1, vI 1] [iI 6, iR bp])) rfl rfl (hb hby d7_17) _ ?_
    refine XS.istore X106.here hx rfl (hb hby d7_18) rfl (l' := #[vR a1, vI 2, vI 0, vI 6, vI 2, vR s0, vI 1, vI 1]) rfl ?_
    refine XS.iload X106.here hx rfl (hb hby d7_20) rfl ?_
    refine XS.iloadN X106.here hx rfl (hb hby d7_22) rfl ?_
    refine XS.icmpYes X106.here hx rfl (pc0 := 23) (pc' := 99) rfl (hb hby d7_23) rfl (flt (by decide : ¬ ((2 : Int32) < (2 : Int32)))).2.1 (by decide) (by decide) ?_
    refine XS.aloadN X106.here hx rfl (hb hby d7_99) rfl rfl ?_
    refine st112 _ ?_
    refine XS.iloadN X112.here hx rfl (hb hby d7_103) rfl ?_
    refine XS.aconstNull X112.here hx rfl (hb hby d7_104) ?_
    refine st116 _ ?_
    refine XS.aloadN X116.here hx rfl (hb hby d7_106) rfl rfl ?_
    refine st118 _ ?_
    refine XS.iloadN X118.here hx rfl (hb hby d7_110) rfl ?_
    refine XS.iconst X118.here hx rfl (hb hby d7_111) ?_
    refine st122 _ ?_
    refine XS.iinc X122.here hx rfl (hb hby d7_113) rfl (l' := #[vR a1, vI 2, vI 0, vI ((6 : Int32) + (1 : Int32)), vI 2, vR s0, vI 1, vI 1]) rfl ?_
    rw [(by decide : ((6 : Int32) + (1 : Int32)) = (7 : Int32))]
    refine XS.goto X122.here hx rfl (pc0 := 116) (pc' := 4) rfl (hb hby d7_116) (by decide) (by decide) ?_
    refine XS.iloadN X122.here hx rfl (hb hby d7_4) rfl ?_
    refine XS.aloadN X122.here hx rfl (hb hby d7_5) rfl rfl ?_
    refine st124 _ ?_
    refine XS.icmpYes X124.here hx rfl (pc0 := 9) (pc' := 119) rfl (hb hby d7_9) rfl (flt (by decide : ¬ ((7 : Int32) < (7 : Int32)))).2.1 (by decide) (by decide) ?_
    refine XS.aloadN X124.here hx rfl (hb hby d7_119) rfl rfl ?_
    refine XS.iloadN X124.here hx rfl (hb hby d7_120) rfl ?_
    refine st126 _ ?_
    show Steps _ _ _ (T126.setTop (mkF m 124 #[vR a1, vI 2, vI 0, vI 7, vI 2, vR s0, vI 1, vI 1] [])) _
    exact X126.returnOut hx hret (hb hby d7_124) hr
  · show own_QT2 Z a1 bi bf bp bc bn ki kf kp kc kn IL FL PL s0 s1 s2 q0 q1 q2 x0_ x1_ x2_ x3_ y1_ y2_ y3_ z0_ z1_ z2_ z3_ h0 n0 _ T126.heap _
    rw [e126]
    exact ⟨w0_, w1_, w2_, w3_, z0_, z1_, z2_, z3_, rfl, N126, K126, fk127, Fw126, fk128, fk129, fk130, fk131, fk132, fk133, fk134, fk135, fk136, fk137, fk138, fk139, fk140, fk141, fk142, fk143, hrel⟩
theorem ef_7_2 (m : MethodId) (x0 : Addr) : entryFrame m #[(.ref x0), (.int (2 : Int32))] 8 = mkF m 0 #[.val (.ref x0), .val (.int (2 : Int32)), .unset, .unset, .unset, .unset, .unset, .unset] [] := by first | (simp [entryFrame, mkF, argsToLocals, Value.category]; done) | rfl
def Q7_2 (Z : State) (a1 : Addr) (bi bf bp bc bn : Addr) (ki kf kp kc kn : ClassId) (IL FL PL : List Int32) (s0 s1 s2 : Addr) (q0 q1 q2 : ClassId) (x0_ x1_ x2_ x3_ y1_ y2_ y3_ z0_ z1_ z2_ z3_ : Int32) (h0 : Heap) (n0 : Nat) (v : Option Value) (h : Heap) (L : List Loc) : Prop := own_QT2 Z a1 bi bf bp bc bn ki kf kp kc kn IL FL PL s0 s1 s2 q0 q1 q2 x0_ x1_ x2_ x3_ y1_ y2_ y3_ z0_ z1_ z2_ z3_ h0 n0 v h L
theorem rm7_2 (l : Launch) (Z : State) (a0 : Array Value) (hw : ∀ d ∈ tables_1, d.before a0 Z = true) (ws : List Jvm.Cond) (a1 : Addr) (bi bf bp bc bn : Addr) (ki kf kp kc kn : ClassId) (IL FL PL : List Int32) (s0 s1 s2 : Addr) (q0 q1 q2 : ClassId) (x0_ x1_ x2_ x3_ y1_ y2_ y3_ z0_ z1_ z2_ z3_ : Int32) (h0 : Heap) (n0 : Nat) (Z0 : n0 ≤ h0.size) (E_a1 : Exa Z h0 a1 "com/example/tidemine/tidemine/PatternTrie") (F_size : Fld Z h0 a1 "com/example/tidemine/tidemine/PatternTrie" "size" "I" (.int (7 : Int32))) (F_items : Fld Z h0 a1 "com/example/tidemine/tidemine/PatternTrie" "items" "[I" (.ref bi)) (V_bi : Arv Z h0 bi ki .int (16 : Int32) (own_bs IL) (.int (0 : Int32))) (F_sameEvents : Fld Z h0 a1 "com/example/tidemine/tidemine/PatternTrie" "sameEvents" "[Z" (.ref bf)) (V_bf : Arv Z h0 bf kf .boolean (16 : Int32) (own_bs FL) (.int (0 : Int32))) (F_parents : Fld Z h0 a1 "com/example/tidemine/tidemine/PatternTrie" "parents" "[I" (.ref bp)) (V_bp : Arv Z h0 bp kp .int (16 : Int32) (own_bs PL) (.int (0 : Int32))) (F_children : Fld Z h0 a1 "com/example/tidemine/tidemine/PatternTrie" "children" "[[I" (.ref bc)) (V_bc : Arv Z h0 bc kc (.array .int) (16 : Int32) [(.ref s0), (.ref s1), (.ref s2), .null, .null, .null, .null, .null, .null, .null, .null, .null, .null, .null, .null, .null] .null) (F_childCounts : Fld Z h0 a1 "com/example/tidemine/tidemine/PatternTrie" "childCounts" "[I" (.ref bn)) (V_bn : Arv Z h0 bn kn .int (16 : Int32) (own_bs [3, 1, 2, 0, 0, 0, 0, 0, 0, 0, 0, 0, 0, 0, 0, 0]) (.int (0 : Int32))) (V_s0 : Arv Z h0 s0 q0 .int (4 : Int32) (own_bs [x0_, x1_, x2_, x3_]) (.int (0 : Int32))) (E_s0 : Exa Z h0 s0 "[I") (V_s1 : Arv Z h0 s1 q1 .int (4 : Int32) (own_bs [3, y1_, y2_, y3_]) (.int (0 : Int32))) (E_s1 : Exa Z h0 s1 "[I") (V_s2 : Arv Z h0 s2 q2 .int (4 : Int32) (own_bs [z0_, z1_, z2_, z3_]) (.int (0 : Int32))) (E_s2 : Exa Z h0 s2 "[I") (hpr1 : PL.getD 1 0 = (0 : Int32)) (hpr2 : PL.getD 2 0 = (0 : Int32)) (hpr3 : PL.getD 3 0 = (1 : Int32)) (hpr4 : PL.getD 4 0 = (0 : Int32)) (hpr5 : PL.getD 5 0 = (2 : Int32)) (hpr6 : PL.getD 6 0 = (2 : Int32)) (g_a1 : n0 ≤ a1) (g_bi : n0 ≤ bi) (g_bf : n0 ≤ bf) (g_bp : n0 ≤ bp) (g_bc : n0 ≤ bc) (g_bn : n0 ≤ bn) (g_s0 : n0 ≤ s0) (g_s1 : n0 ≤ s1) (g_s2 : n0 ≤ s2) (ne_a1_bi : a1 ≠ bi) (ne_a1_bf : a1 ≠ bf) (ne_a1_bp : a1 ≠ bp) (ne_a1_bc : a1 ≠ bc) (ne_a1_bn : a1 ≠ bn) (ne_a1_s0 : a1 ≠ s0) (ne_a1_s1 : a1 ≠ s1) (ne_a1_s2 : a1 ≠ s2) (ne_bi_bf : bi ≠ bf) (ne_bi_bp : bi ≠ bp) (ne_bi_bc : bi ≠ bc) (ne_bi_bn : bi ≠ bn) (ne_bi_s0 : bi ≠ s0) (ne_bi_s1 : bi ≠ s1) (ne_bi_s2 : bi ≠ s2) (ne_bf_bp : bf ≠ bp) (ne_bf_bc : bf ≠ bc) (ne_bf_bn : bf ≠ bn) (ne_bf_s0 : bf ≠ s0) (ne_bf_s1 : bf ≠ s1) (ne_bf_s2 : bf ≠ s2) (ne_bp_bc : bp ≠ bc) (ne_bp_bn : bp ≠ bn) (ne_bp_s0 : bp ≠ s0) (ne_bp_s1 : bp ≠ s1) (ne_bp_s2 : bp ≠ s2) (ne_bc_bn : bc ≠ bn) (ne_bc_s0 : bc ≠ s0) (ne_bc_s1 : bc ≠ s1) (ne_bc_s2 : bc ≠ s2) (ne_bn_s0 : bn ≠ s0) (ne_bn_s1 : bn ≠ s1) (ne_bn_s2 : bn ≠ s2) (ne_s0_s1 : s0 ≠ s1) (ne_s0_s2 : s0 ≠ s2) (ne_s1_s2 : s1 ≠ s2) (hpat : (x0_ < (2 : Int32) ∧ ¬ x1_ < (2 : Int32) ∧ ¬ x2_ < (2 : Int32)) ∨ (¬ x0_ < (2 : Int32) ∧ x1_ < (2 : Int32) ∧ ¬ x2_ < (2 : Int32)) ∨ (¬ x0_ < (2 : Int32) ∧ ¬ x1_ < (2 : Int32) ∧ x2_ < (2 : Int32))) :
    MetFree l mn_4 (head1 (Jvm.Cond.code mn_4 prog_23_method_4_code 8 none :: ws) ({ frames := 0, cells := 0, slots := 0, locals := 0 } : Room)) (fun a U => a = #[(.ref a1), (.int (2 : Int32))] ∧ Z.Warmed39 U.vm ∧ U.heap = h0) (fun _ _ _ _ _ => True) (fun _ U o U' => ∃ v L, o = .returned v ∧ Q7_2 Z a1 bi bf bp bc bn ki kf kp kc kn IL FL PL s0 s1 s2 q0 q1 q2 x0_ x1_ x2_ x3_ y1_ y2_ y3_ z0_ z1_ z2_ z3_ h0 n0 v U'.heap L ∧ FrameEnd U o U' L ({ frames := 0, cells := 0, slots := 0, locals := 0 } : Room).cells ({ frames := 0, cells := 0, slots := 0, locals := 0 } : Room).slots) := by
  refine MetFree.of_bodySF (plainFor_of_name pn_2) hisR ?_
  intro p e s m args below meth c s₁ Bd hml0 hP hK
  obtain ⟨rfl, hZ, hh⟩ := hP
  have hx := Bd.exec
  have hby := Bd.bytes
  have hml : c.maxLocals = 8 := hml0
  have hown : s.vm.findClass "com/example/tidemine/tidemine/PatternTrie" = some m.cls := findClass_of_methodNamed Bd.named
  have hnm := (name_of_methodNamed Bd.named Bd.method).1
  have X0 : Stand p l e ({ frames := 0, cells := 0, slots := 0, locals := 0 } : Room) s m #[(.ref a1), (.int (2 : Int32))] below meth c s₁ [] 0 0 := Stand.of_body Bd
  have e0 : s₁.heap = h0 := by rw [← hh, Bd.state]; rfl
  have N0 := Fr.nil n0
  have K0 := Keep.refl h0 [a1, bc, bn, s0, s1, s2]
  have pre0 : ∀ t, Steps p.tables e below (s₁.setTop (mkF m 0 #[.val (.ref a1), .val (.int (2 : Int32)), .unset, .unset, .unset, .unset, .unset, .unset] [])) t → Steps p.tables e below (s₁.setTop (entryFrame m #[(.ref a1), (.int (2 : Int32))] 8)) t := fun t k => castTop (ef_7_2 m a1) k
  obtain ⟨T1, X1, e1, st1⟩ := gF X0 hx hZ hown (ww hw 10 rfl) e0 F_size (g := (mkF m 6 #[vR a1, vI 2, vI (-1), vI 2, .unset, .unset, .unset, .unset] [iR a1, iI 2])) rfl rfl (hb hby d7_6)
  obtain ⟨T2, X2, e2, st2⟩ := gF X1 hx hZ hown (ww hw 18 rfl) e1 F_parents (g := (mkF m 13 #[vR a1, vI 2, vI (-1), vI 2, .unset, .unset, .unset, .unset] [iR a1])) rfl rfl (hb hby d7_13)
  obtain ⟨cl3, Ar3, q3, S3, M3, H3, G3⟩ := id V_bp
  have hin4 := inb_of (j := (2 : Int32)) S3 ⟨by decide, by decide⟩
  have hat5 : cl3.slots[((2 : Int32)).toNatClampNeg]? = some (.int (0 : Int32)) := Has.at H3 hin4 (by rw [own_bsget]; exact congrArg Value.int hpr2)
  obtain ⟨T6, X6, e6, st6⟩ := gF X2 hx hZ hown (ww hw 22 rfl) e2 F_children (g := (mkF m 33 #[vR a1, vI 2, vI (-1), vI 2, vI 0, .unset, .unset, .unset] [iR a1])) rfl rfl (hb hby d7_33)
  obtain ⟨cl7, Ar7, q7, S7, M7, H7, G7⟩ := id V_bc
  have hin8 := inb_of (j := (0 : Int32)) S7 ⟨by decide, by decide⟩
  obtain ⟨T10, X10, e10, st10⟩ := gF X6 hx hZ hown (ww hw 24 rfl) e6 F_childCounts (g := (mkF m 50 #[vR a1, vI 2, vI (-1), vI 2, vI 0, vR s0, vI 0, vI 0] [iR a1, iI 0])) rfl rfl (hb hby d7_50)
  obtain ⟨cl11, Ar11, q11, S11, M11, H11, G11⟩ := id V_bn
  have hin12 := inb_of (j := (0 : Int32)) S11 ⟨by decide, by decide⟩
  obtain ⟨cl14, Ar14, q14, S14, M14, H14, G14⟩ := id V_s0
  have hin15 := inb_of (j := (0 : Int32)) S14 ⟨by decide, by decide⟩
  have pre18 : ∀ t, Steps p.tables e below (T10.setTop (mkF m 65 #[vR a1, vI 2, vI (-1), vI 2, vI 0, vR s0, vI 0, vI 0] [iI 2, iI x0_])) t → Steps p.tables e below (s₁.setTop (entryFrame m #[(.ref a1), (.int (2 : Int32))] 8)) t := by
    intro t kt
    refine pre0 t ?_
    refine XS.iconst X0.here hx rfl (hb hby d7_0) ?_
    refine XS.istoreN X0.here hx rfl (hb hby d7_1) rfl (l' := #[vR a1, vI 2, vI (-1), .unset, .unset, .unset, .unset, .unset]) rfl ?_
    refine XS.iloadN X0.here hx rfl (hb hby d7_2) rfl ?_
    refine XS.istoreN X0.here hx rfl (hb hby d7_3) rfl (l' := #[vR a1, vI 2, vI (-1), vI 2, .unset, .unset, .unset, .unset]) rfl ?_
    refine XS.iloadN X0.here hx rfl (hb hby d7_4) rfl ?_
    refine XS.aloadN X0.here hx rfl (hb hby d7_5) rfl rfl ?_
    show SA s₁ m 6 #[vR a1, vI 2, vI (-1), vI 2, .unset, .unset, .unset, .unset] [iR a1, iI 2]
    refine st1 _ ?_
    refine XS.icmpNo X1.here hx rfl (hb hby d7_9) rfl (tlt (by decide : (2 : Int32) < (7 : Int32))).2.1 ?_
    refine XS.aloadN X1.here hx rfl (hb hby d7_12) rfl rfl ?_
    refine st2 _ ?_
    refine XS.iloadN X2.here hx rfl (hb hby d7_16) rfl ?_
    refine X2.iaload hx (j := (2 : Int32)) (v := (.int (0 : Int32))) (by rw [e2]; exact Ar3.1) (State.isArrayOf_alike hZ.alike Ar3.2.1) Ar3.2.2 hin4 hat5 (g := (mkF m 17 #[vR a1, vI 2, vI (-1), vI 2, .unset, .unset, .unset, .unset] [iI 2, iR bp])) rfl rfl (hb hby d7_17) _ ?_
    refine XS.istore X2.here hx rfl (hb hby d7_18) rfl (l' := #[vR a1, vI 2, vI (-1), vI 2, vI 0, .unset, .unset, .unset]) rfl ?_
    refine XS.iload X2.here hx rfl (hb hby d7_20) rfl ?_
    refine XS.iloadN X2.here hx rfl (hb hby d7_22) rfl ?_
    refine XS.icmpNo X2.here hx rfl (hb hby d7_23) rfl (tlt (by decide : (0 : Int32) < (2 : Int32))).2.1 ?_
    refine XS.iload X2.here hx rfl (hb hby d7_26) rfl ?_
    refine XS.iloadN X2.here hx rfl (hb hby d7_28) rfl ?_
    refine XS.icmpNo X2.here hx rfl (hb hby d7_29) rfl (feq (by decide : ¬ ((0 : Int32) = (-1 : Int32)))).1 ?_
    refine XS.aloadN X2.here hx rfl (hb hby d7_32) rfl rfl ?_
    show SA T2 m 33 #[vR a1, vI 2, vI (-1), vI 2, vI 0, .unset, .unset, .unset] [iR a1]
    refine st6 _ ?_
    refine XS.iload X6.here hx rfl (hb hby d7_36) rfl ?_
    refine X6.aaload hx (j := (0 : Int32)) (v := (.ref s0)) (by rw [e6]; exact Ar7.1) (State.isArrayOf_alike hZ.alike Ar7.2.1) rfl Ar7.2.2 hin8 (Has.at H7 hin8 rfl) (g := (mkF m 38 #[vR a1, vI 2, vI (-1), vI 2, vI 0, .unset, .unset, .unset] [iI 0, iR bc])) rfl rfl (hb hby d7_38) _ ?_
    refine XS.astore X6.here hx rfl (hb hby d7_39) rfl rfl (l' := #[vR a1, vI 2, vI (-1), vI 2, vI 0, vR s0, .unset, .unset]) rfl ?_
    refine XS.iconst X6.here hx rfl (hb hby d7_41) ?_
    refine XS.istore X6.here hx rfl (hb hby d7_42) rfl (l' := #[vR a1, vI 2, vI (-1), vI 2, vI 0, vR s0, vI 0, .unset]) rfl ?_
    refine XS.iconst X6.here hx rfl (hb hby d7_44) ?_
    refine XS.istore X6.here hx rfl (hb hby d7_45) rfl (l' := #[vR a1, vI 2, vI (-1), vI 2, vI 0, vR s0, vI 0, vI 0]) rfl ?_
    refine XS.iload X6.here hx rfl (hb hby d7_47) rfl ?_
    refine XS.aloadN X6.here hx rfl (hb hby d7_49) rfl rfl ?_
    refine st10 _ ?_
    refine XS.iload X10.here hx rfl (hb hby d7_53) rfl ?_
    refine X10.iaload hx (j := (0 : Int32)) (v := (.int (3 : Int32))) (by rw [e10]; exact Ar11.1) (State.isArrayOf_alike hZ.alike Ar11.2.1) Ar11.2.2 hin12 (Has.at H11 hin12 rfl) (g := (mkF m 55 #[vR a1, vI 2, vI (-1), vI 2, vI 0, vR s0, vI 0, vI 0] [iI 0, iR bn, iI 0])) rfl rfl (hb hby d7_55) _ ?_
    refine XS.icmpNo X10.here hx rfl (hb hby d7_56) rfl (tlt (by decide : (0 : Int32) < (3 : Int32))).2.1 ?_
    refine XS.aload X10.here hx rfl (hb hby d7_59) rfl rfl ?_
    refine XS.iload X10.here hx rfl (hb hby d7_61) rfl ?_
    refine X10.iaload hx (j := (0 : Int32)) (v := (.int x0_)) (by rw [e10]; exact Ar14.1) (State.isArrayOf_alike hZ.alike Ar14.2.1) Ar14.2.2 hin15 (Has.at H14 hin15 rfl) (g := (mkF m 63 #[vR a1, vI 2, vI (-1), vI 2, vI 0, vR s0, vI 0, vI 0] [iI 0, iR s0])) rfl rfl (hb hby d7_63) _ ?_
    refine XS.iloadN X10.here hx rfl (hb hby d7_64) rfl ?_
    exact kt
  by_cases hc17 : x0_ < (2 : Int32)
  · have hin19 := inb_of (j := (0 : Int32)) S14 ⟨by decide, by decide⟩
    have hin21 := inb_of (j := (0 : Int32)) S14 ⟨by decide, by decide⟩
    obtain ⟨T22, h22, X22, e22, W22, st22⟩ := stI X10 hx hZ e10 Ar14 (j := (0 : Int32)) hin21 (g := (mkF m 80 #[vR a1, vI 2, vI (-1), vI 2, vI 0, vR s0, vI 1, vI 0] [iI x0_, iI 0, iR s0])) rfl rfl (hb hby d7_80)
    have V22 : Arv Z h22 s0 q0 .int (4 : Int32) (own_bs [x0_, x1_, x2_, x3_]) (.int (0 : Int32)) := Arv.set Ar14 q14 S14 M14 H14 G14 rfl W22 0 rfl (Nat.le_of_ble_eq_true rfl)
    have K22 : Keep h0 h22 [a1, bc, bn, s0, s1, s2] := K0.wr W22 (Or.inl (List.mem_of_getElem? (i := 3) rfl))
    have N22 := Fr.snoc X22 N0 g_s0
    have fk23 := (F_childCounts.other W22 (Or.inl ne_a1_s0))
    obtain ⟨T24, X24, e24, st24⟩ := gF X22 hx hZ hown (ww hw 24 rfl) e22 fk23 (g := (mkF m 50 #[vR a1, vI 2, vI (-1), vI 2, vI 0, vR s0, vI 1, vI 1] [iR a1, iI 1])) rfl rfl (hb hby d7_50)
    have fk25 := (V_bn.other W22 ne_bn_s0)
    obtain ⟨cl26, Ar26, q26, S26, M26, H26, G26⟩ := id fk25
    have hin27 := inb_of (j := (0 : Int32)) S26 ⟨by decide, by decide⟩
    obtain ⟨cl29, Ar29, q29, S29, M29, H29, G29⟩ := id V22
    have hin30 := inb_of (j := (1 : Int32)) S29 ⟨by decide, by decide⟩
    have pre33 : ∀ t, Steps p.tables e below (T24.setTop (mkF m 65 #[vR a1, vI 2, vI (-1), vI 2, vI 0, vR s0, vI 1, vI 1] [iI 2, iI x1_])) t → Steps p.tables e below (s₁.setTop (entryFrame m #[(.ref a1), (.int (2 : Int32))] 8)) t := by
      intro t kt
      refine pre18 t ?_
      refine XS.icmpNo X10.here hx rfl (hb hby d7_65) rfl (tlt hc17).2.1 ?_
      refine XS.aload X10.here hx rfl (hb hby d7_68) rfl rfl ?_
      refine XS.iload X10.here hx rfl (hb hby d7_70) rfl ?_
      refine XS.iinc X10.here hx rfl (hb hby d7_72) rfl (l' := #[vR a1, vI 2, vI (-1), vI 2, vI 0, vR s0, vI ((0 : Int32) + (1 : Int32)), vI 0]) rfl ?_
      rw [(by decide : ((0 : Int32) + (1 : Int32)) = (1 : Int32))]
      refine XS.aload X10.here hx rfl (hb hby d7_75) rfl rfl ?_
      refine XS.iload X10.here hx rfl (hb hby d7_77) rfl ?_
      show SA T10 m 79 #[vR a1, vI 2, vI (-1), vI 2, vI 0, vR s0, vI 1, vI 0] [iI 0, iR s0, iI 0, iR s0]
      refine X10.iaload hx (j := (0 : Int32)) (v := (.int x0_)) (by rw [e10]; exact Ar14.1) (State.isArrayOf_alike hZ.alike Ar14.2.1) Ar14.2.2 hin19 (Has.at H14 hin19 rfl) (g := (mkF m 79 #[vR a1, vI 2, vI (-1), vI 2, vI 0, vR s0, vI 1, vI 0] [iI 0, iR s0, iI 0, iR s0])) rfl rfl (hb hby d7_79) _ ?_
      refine st22 _ ?_
      refine XS.iinc X22.here hx rfl (hb hby d7_81) rfl (l' := #[vR a1, vI 2, vI (-1), vI 2, vI 0, vR s0, vI 1, vI ((0 : Int32) + (1 : Int32))]) rfl ?_
      rw [(by decide : ((0 : Int32) + (1 : Int32)) = (1 : Int32))]
      refine XS.goto X22.here hx rfl (pc0 := 84) (pc' := 47) rfl (hb hby d7_84) (by decide) (by decide) ?_
      refine XS.iload X22.here hx rfl (hb hby d7_47) rfl ?_
      refine XS.aloadN X22.here hx rfl (hb hby d7_49) rfl rfl ?_
      refine st24 _ ?_
      refine XS.iload X24.here hx rfl (hb hby d7_53) rfl ?_
      refine X24.iaload hx (j := (0 : Int32)) (v := (.int (3 : Int32))) (by rw [e24]; exact Ar26.1) (State.isArrayOf_alike hZ.alike Ar26.2.1) Ar26.2.2 hin27 (Has.at H26 hin27 rfl) (g := (mkF m 55 #[vR a1, vI 2, vI (-1), vI 2, vI 0, vR s0, vI 1, vI 1] [iI 0, iR bn, iI 1])) rfl rfl (hb hby d7_55) _ ?_
      refine XS.icmpNo X24.here hx rfl (hb hby d7_56) rfl (tlt (by decide : (1 : Int32) < (3 : Int32))).2.1 ?_
      refine XS.aload X24.here hx rfl (hb hby d7_59) rfl rfl ?_
      refine XS.iload X24.here hx rfl (hb hby d7_61) rfl ?_
      refine X24.iaload hx (j := (1 : Int32)) (v := (.int x1_)) (by rw [e24]; exact Ar29.1) (State.isArrayOf_alike hZ.alike Ar29.2.1) Ar29.2.2 hin30 (Has.at H29 hin30 rfl) (g := (mkF m 63 #[vR a1, vI 2, vI (-1), vI 2, vI 0, vR s0, vI 1, vI 1] [iI 1, iR s0])) rfl rfl (hb hby d7_63) _ ?_
      refine XS.iloadN X24.here hx rfl (hb hby d7_64) rfl ?_
      exact kt
    by_cases hc32 : x1_ < (2 : Int32)
    · exfalso; exact absurd hpat (by simp only [hc17, hc32, or_false, or_true, true_or, false_or, and_true, true_and, false_and, and_false, not_true_eq_false, not_false_eq_true])
    · obtain ⟨T34, X34, e34, st34⟩ := gF X24 hx hZ hown (ww hw 24 rfl) e24 fk23 (g := (mkF m 50 #[vR a1, vI 2, vI (-1), vI 2, vI 0, vR s0, vI 1, vI 2] [iR a1, iI 2])) rfl rfl (hb hby d7_50)
      have hin35 := inb_of (j := (0 : Int32)) S26 ⟨by decide, by decide⟩
      have hin37 := inb_of (j := (2 : Int32)) S29 ⟨by decide, by decide⟩
      have pre40 : ∀ t, Steps p.tables e below (T34.setTop (mkF m 65 #[vR a1, vI 2, vI (-1), vI 2, vI 0, vR s0, vI 1, vI 2] [iI 2, iI x2_])) t → Steps p.tables e below (s₁.setTop (entryFrame m #[(.ref a1), (.int (2 : Int32))] 8)) t := by
        intro t kt
        refine pre33 t ?_
        refine XS.icmpYes X24.here hx rfl (pc0 := 65) (pc' := 81) rfl (hb hby d7_65) rfl (flt hc32).2.1 (by decide) (by decide) ?_
        refine XS.iinc X24.here hx rfl (hb hby d7_81) rfl (l' := #[vR a1, vI 2, vI (-1), vI 2, vI 0, vR s0, vI 1, vI ((1 : Int32) + (1 : Int32))]) rfl ?_
        rw [(by decide : ((1 : Int32) + (1 : Int32)) = (2 : Int32))]
        refine XS.goto X24.here hx rfl (pc0 := 84) (pc' := 47) rfl (hb hby d7_84) (by decide) (by decide) ?_
        refine XS.iload X24.here hx rfl (hb hby d7_47) rfl ?_
        refine XS.aloadN X24.here hx rfl (hb hby d7_49) rfl rfl ?_
        refine st34 _ ?_
        refine XS.iload X34.here hx rfl (hb hby d7_53) rfl ?_
        refine X34.iaload hx (j := (0 : Int32)) (v := (.int (3 : Int32))) (by rw [e34]; exact Ar26.1) (State.isArrayOf_alike hZ.alike Ar26.2.1) Ar26.2.2 hin35 (Has.at H26 hin35 rfl) (g := (mkF m 55 #[vR a1, vI 2, vI (-1), vI 2, vI 0, vR s0, vI 1, vI 2] [iI 0, iR bn, iI 2])) rfl rfl (hb hby d7_55) _ ?_
        refine XS.icmpNo X34.here hx rfl (hb hby d7_56) rfl (tlt (by decide : (2 : Int32) < (3 : Int32))).2.1 ?_
        refine XS.aload X34.here hx rfl (hb hby d7_59) rfl rfl ?_
        refine XS.iload X34.here hx rfl (hb hby d7_61) rfl ?_
        refine X34.iaload hx (j := (2 : Int32)) (v := (.int x2_)) (by rw [e34]; exact Ar29.1) (State.isArrayOf_alike hZ.alike Ar29.2.1) Ar29.2.2 hin37 (Has.at H29 hin37 rfl) (g := (mkF m 63 #[vR a1, vI 2, vI (-1), vI 2, vI 0, vR s0, vI 1, vI 2] [iI 2, iR s0])) rfl rfl (hb hby d7_63) _ ?_
        refine XS.iloadN X34.here hx rfl (hb hby d7_64) rfl ?_
        exact kt
      by_cases hc39 : x2_ < (2 : Int32)
      · exfalso; exact absurd hpat (by simp only [hc17, hc32, hc39, or_false, or_true, true_or, false_or, and_true, true_and, false_and, and_false, not_true_eq_false, not_false_eq_true])
      · obtain ⟨T41, X41, e41, st41⟩ := gF X34 hx hZ hown (ww hw 24 rfl) e34 fk23 (g := (mkF m 50 #[vR a1, vI 2, vI (-1), vI 2, vI 0, vR s0, vI 1, vI 3] [iR a1, iI 3])) rfl rfl (hb hby d7_50)
        have hin42 := inb_of (j := (0 : Int32)) S26 ⟨by decide, by decide⟩
        obtain ⟨T44, X44, e44, st44⟩ := gF X41 hx hZ hown (ww hw 24 rfl) e41 fk23 (g := (mkF m 88 #[vR a1, vI 2, vI (-1), vI 2, vI 0, vR s0, vI 1, vI 3] [iR a1])) rfl rfl (hb hby d7_88)
        have hin45 := inb_of (j := (0 : Int32)) S26 ⟨by decide, by decide⟩
        obtain ⟨T46, h46, X46, e46, W46, st46⟩ := stI X44 hx hZ e44 Ar26 (j := (0 : Int32)) hin45 (g := (mkF m 95 #[vR a1, vI 2, vI (-1), vI 2, vI 0, vR s0, vI 1, vI 3] [iI 1, iI 0, iR bn])) rfl rfl (hb hby d7_95)
        have V46 : Arv Z h46 bn kn .int (16 : Int32) (own_bs [1, 1, 2, 0, 0, 0, 0, 0, 0, 0, 0, 0, 0, 0, 0, 0]) (.int (0 : Int32)) := Arv.set Ar26 q26 S26 M26 H26 G26 rfl W46 0 rfl (Nat.le_of_ble_eq_true rfl)
        have K46 : Keep h0 h46 [a1, bc, bn, s0, s1, s2] := K22.wr W46 (Or.inl (List.mem_of_getElem? (i := 2) rfl))
        have N46 := Fr.snoc X46 N22 g_bn
        have fk47 := ((F_children.other W22 (Or.inl ne_a1_s0)).other W46 (Or.inl ne_a1_bn))
        obtain ⟨T48, X48, e48, st48⟩ := gF X46 hx hZ hown (ww hw 22 rfl) e46 fk47 (g := (mkF m 100 #[vR a1, vI 2, vI 0, vI 2, vI 0, vR s0, vI 1, vI 3] [iR a1])) rfl rfl (hb hby d7_100)
        have fk49 := ((V_bc.other W22 ne_bc_s0).other W46 ne_bc_bn)
        obtain ⟨cl50, Ar50, q50, S50, M50, H50, G50⟩ := id fk49
        have hin51 := inb_of (j := (2 : Int32)) S50 ⟨by decide, by decide⟩
        obtain ⟨T52, h52, X52, e52, W52, st52⟩ := stR X48 hx hZ e48 Ar50 (j := (2 : Int32)) (v := .null) hin51 rfl (Or.inl rfl) (g := (mkF m 105 #[vR a1, vI 2, vI 0, vI 2, vI 0, vR s0, vI 1, vI 3] [.null, iI 2, iR bc])) rfl rfl (hb hby d7_105)
        have V52 : Arv Z h52 bc kc (.array .int) (16 : Int32) [(.ref s0), (.ref s1), .null, .null, .null, .null, .null, .null, .null, .null, .null, .null, .null, .null, .null, .null] .null := Arv.set Ar50 q50 S50 M50 H50 G50 rfl W52 2 rfl (Nat.le_of_ble_eq_true rfl)
        have K52 : Keep h0 h52 [a1, bc, bn, s0, s1, s2] := K46.wr W52 (Or.inl (List.mem_of_getElem? (i := 1) rfl))
        have N52 := Fr.snoc X52 N46 g_bc
        have fk53 := ((fk23.other W46 (Or.inl ne_a1_bn)).other W52 (Or.inl ne_a1_bc))
        obtain ⟨T54, X54, e54, st54⟩ := gF X52 hx hZ hown (ww hw 24 rfl) e52 fk53 (g := (mkF m 107 #[vR a1, vI 2, vI 0, vI 2, vI 0, vR s0, vI 1, vI 3] [iR a1])) rfl rfl (hb hby d7_107)
        have fk55 := (V46.other W52 (Ne.symm ne_bc_bn))
        obtain ⟨cl56, Ar56, q56, S56, M56, H56, G56⟩ := id fk55
        have hin57 := inb_of (j := (2 : Int32)) S56 ⟨by decide, by decide⟩
        obtain ⟨T58, h58, X58, e58, W58, st58⟩ := stI X54 hx hZ e54 Ar56 (j := (2 : Int32)) hin57 (g := (mkF m 112 #[vR a1, vI 2, vI 0, vI 2, vI 0, vR s0, vI 1, vI 3] [iI 0, iI 2, iR bn])) rfl rfl (hb hby d7_112)
        have V58 : Arv Z h58 bn kn .int (16 : Int32) (own_bs [1, 1, 0, 0, 0, 0, 0, 0, 0, 0, 0, 0, 0, 0, 0, 0]) (.int (0 : Int32)) := Arv.set Ar56 q56 S56 M56 H56 G56 rfl W58 2 rfl (Nat.le_of_ble_eq_true rfl)
        have K58 : Keep h0 h58 [a1, bc, bn, s0, s1, s2] := K52.wr W58 (Or.inl (List.mem_of_getElem? (i := 2) rfl))
        have N58 := Fr.snoc X58 N52 g_bn
        have fk59 := ((((E_a1.wr W22).wr W46).wr W52).wr W58)
        have fk60 := ((((F_size.other W22 (Or.inl ne_a1_s0)).other W46 (Or.inl ne_a1_bn)).other W52 (Or.inl ne_a1_bc)).other W58 (Or.inl ne_a1_bn))
        have fk61 := ((((F_items.other W22 (Or.inl ne_a1_s0)).other W46 (Or.inl ne_a1_bn)).other W52 (Or.inl ne_a1_bc)).other W58 (Or.inl ne_a1_bn))
        have fk62 := ((((V_bi.other W22 ne_bi_s0).other W46 ne_bi_bn).other W52 ne_bi_bc).other W58 ne_bi_bn)
        have fk63 := ((((F_sameEvents.other W22 (Or.inl ne_a1_s0)).other W46 (Or.inl ne_a1_bn)).other W52 (Or.inl ne_a1_bc)).other W58 (Or.inl ne_a1_bn))
        have fk64 := ((((V_bf.other W22 ne_bf_s0).other W46 ne_bf_bn).other W52 ne_bf_bc).other W58 ne_bf_bn)
        have fk65 := ((((F_parents.other W22 (Or.inl ne_a1_s0)).other W46 (Or.inl ne_a1_bn)).other W52 (Or.inl ne_a1_bc)).other W58 (Or.inl ne_a1_bn))
        have fk66 := ((((V_bp.other W22 ne_bp_s0).other W46 ne_bp_bn).other W52 ne_bp_bc).other W58 ne_bp_bn)
        have fk67 := ((fk47.other W52 (Or.inl ne_a1_bc)).other W58 (Or.inl ne_a1_bn))
        have fk68 := (V52.other W58 ne_bc_bn)
        have fk69 := (fk53.other W58 (Or.inl ne_a1_bn))
        have fk70 := (((V22.other W46 (Ne.symm ne_bn_s0)).other W52 (Ne.symm ne_bc_s0)).other W58 (Ne.symm ne_bn_s0))
        have fk71 := ((((E_s0.wr W22).wr W46).wr W52).wr W58)
        have fk72 := ((((V_s1.other W22 (Ne.symm ne_s0_s1)).other W46 (Ne.symm ne_bn_s1)).other W52 (Ne.symm ne_bc_s1)).other W58 (Ne.symm ne_bn_s1))
        have fk73 := ((((E_s1.wr W22).wr W46).wr W52).wr W58)
        have fk74 := ((((V_s2.other W22 (Ne.symm ne_s0_s2)).other W46 (Ne.symm ne_bn_s2)).other W52 (Ne.symm ne_bc_s2)).other W58 (Ne.symm ne_bn_s2))
        have fk75 := ((((E_s2.wr W22).wr W46).wr W52).wr W58)
        have pre76 : ∀ t, Steps p.tables e below (T58.setTop (mkF m 4 #[vR a1, vI 2, vI 0, vI 3, vI 0, vR s0, vI 1, vI 3] [])) t → Steps p.tables e below (s₁.setTop (entryFrame m #[(.ref a1), (.int (2 : Int32))] 8)) t := by
          intro t kt
          refine pre40 t ?_
          refine XS.icmpYes X34.here hx rfl (pc0 := 65) (pc' := 81) rfl (hb hby d7_65) rfl (flt hc39).2.1 (by decide) (by decide) ?_
          refine XS.iinc X34.here hx rfl (hb hby d7_81) rfl (l' := #[vR a1, vI 2, vI (-1), vI 2, vI 0, vR s0, vI 1, vI ((2 : Int32) + (1 : Int32))]) rfl ?_
          rw [(by decide : ((2 : Int32) + (1 : Int32)) = (3 : Int32))]
          refine XS.goto X34.here hx rfl (pc0 := 84) (pc' := 47) rfl (hb hby d7_84) (by decide) (by decide) ?_
          refine XS.iload X34.here hx rfl (hb hby d7_47) rfl ?_
          refine XS.aloadN X34.here hx rfl (hb hby d7_49) rfl rfl ?_
          refine st41 _ ?_
          refine XS.iload X41.here hx rfl (hb hby d7_53) rfl ?_
          refine X41.iaload hx (j := (0 : Int32)) (v := (.int (3 : Int32))) (by rw [e41]; exact Ar26.1) (State.isArrayOf_alike hZ.alike Ar26.2.1) Ar26.2.2 hin42 (Has.at H26 hin42 rfl) (g := (mkF m 55 #[vR a1, vI 2, vI (-1), vI 2, vI 0, vR s0, vI 1, vI 3] [iI 0, iR bn, iI 3])) rfl rfl (hb hby d7_55) _ ?_
          refine XS.icmpYes X41.here hx rfl (pc0 := 56) (pc' := 87) rfl (hb hby d7_56) rfl (flt (by decide : ¬ ((3 : Int32) < (3 : Int32)))).2.1 (by decide) (by decide) ?_
          refine XS.aloadN X41.here hx rfl (hb hby d7_87) rfl rfl ?_
          refine st44 _ ?_
          refine XS.iload X44.here hx rfl (hb hby d7_91) rfl ?_
          refine XS.iload X44.here hx rfl (hb hby d7_93) rfl ?_
          refine st46 _ ?_
          refine XS.iload X46.here hx rfl (hb hby d7_96) rfl ?_
          refine XS.istoreN X46.here hx rfl (hb hby d7_98) rfl (l' := #[vR a1, vI 2, vI 0, vI 2, vI 0, vR s0, vI 1, vI 3]) rfl ?_
          refine XS.aloadN X46.here hx rfl (hb hby d7_99) rfl rfl ?_
          refine st48 _ ?_
          refine XS.iloadN X48.here hx rfl (hb hby d7_103) rfl ?_
          refine XS.aconstNull X48.here hx rfl (hb hby d7_104) ?_
          refine st52 _ ?_
          refine XS.aloadN X52.here hx rfl (hb hby d7_106) rfl rfl ?_
          refine st54 _ ?_
          refine XS.iloadN X54.here hx rfl (hb hby d7_110) rfl ?_
          refine XS.iconst X54.here hx rfl (hb hby d7_111) ?_
          refine st58 _ ?_
          refine XS.iinc X58.here hx rfl (hb hby d7_113) rfl (l' := #[vR a1, vI 2, vI 0, vI ((2 : Int32) + (1 : Int32)), vI 0, vR s0, vI 1, vI 3]) rfl ?_
          rw [(by decide : ((2 : Int32) + (1 : Int32)) = (3 : Int32))]
          refine XS.goto X58.here hx rfl (pc0 := 116) (pc' := 4) rfl (hb hby d7_116) (by decide) (by decide) ?_
          exact kt
        obtain ⟨s₂, o₂, hs₂, hr₂⟩ := own_t7_2 (IL := IL) (FL := FL) (x0_ := x0_) (x1_ := x1_) (x2_ := x2_) (x3_ := x3_) (w0_ := x0_) (w1_ := x1_) (w2_ := x2_) (w3_ := x3_) (y1_ := y1_) (y2_ := y2_) (y3_ := y3_) (z0_ := z0_) (z1_ := z1_) (z2_ := z2_) (z3_ := z3_) X58 hx hZ hw hby hml hown Bd.returns (by first | assumption | exact BodyLoose.notSynchronized (by assumption) | exact Body.notSynchronized (by assumption)) e58 K58 N58 Z0 fk59 fk60 fk61 fk62 fk63 fk64 fk65 fk66 fk67 fk68 fk69 V58 fk70 fk71 fk72 fk73 fk74 fk75 hpr1 hpr2 hpr3 hpr4 hpr5 hpr6 g_a1 g_bi g_bf g_bp g_bc g_bn g_s0 g_s1 g_s2 ne_a1_bi ne_a1_bf ne_a1_bp ne_a1_bc ne_a1_bn ne_a1_s0 ne_a1_s1 ne_a1_s2 ne_bi_bf ne_bi_bp ne_bi_bc ne_bi_bn ne_bi_s0 ne_bi_s1 ne_bi_s2 ne_bf_bp ne_bf_bc ne_bf_bn ne_bf_s0 ne_bf_s1 ne_bf_s2 ne_bp_bc ne_bp_bn ne_bp_s0 ne_bp_s1 ne_bp_s2 ne_bc_bn ne_bc_s0 ne_bc_s1 ne_bc_s2 ne_bn_s0 ne_bn_s1 ne_bn_s2 ne_s0_s1 ne_s0_s2 ne_s1_s2 hc17 ⟨fun _ => rfl, fun h => absurd h hc32, fun h => absurd h hc39⟩
        exact ⟨s₂, o₂, pre76 _ hs₂, hr₂⟩
  · obtain ⟨T77, X77, e77, st77⟩ := gF X10 hx hZ hown (ww hw 24 rfl) e10 F_childCounts (g := (mkF m 50 #[vR a1, vI 2, vI (-1), vI 2, vI 0, vR s0, vI 0, vI 1] [iR a1, iI 1])) rfl rfl (hb hby d7_50)
    have hin78 := inb_of (j := (0 : Int32)) S11 ⟨by decide, by decide⟩
    have hin80 := inb_of (j := (1 : Int32)) S14 ⟨by decide, by decide⟩
    have pre83 : ∀ t, Steps p.tables e below (T77.setTop (mkF m 65 #[vR a1, vI 2, vI (-1), vI 2, vI 0, vR s0, vI 0, vI 1] [iI 2, iI x1_])) t → Steps p.tables e below (s₁.setTop (entryFrame m #[(.ref a1), (.int (2 : Int32))] 8)) t := by
      intro t kt
      refine pre18 t ?_
      refine XS.icmpYes X10.here hx rfl (pc0 := 65) (pc' := 81) rfl (hb hby d7_65) rfl (flt hc17).2.1 (by decide) (by decide) ?_
      refine XS.iinc X10.here hx rfl (hb hby d7_81) rfl (l' := #[vR a1, vI 2, vI (-1), vI 2, vI 0, vR s0, vI 0, vI ((0 : Int32) + (1 : Int32))]) rfl ?_
      rw [(by decide : ((0 : Int32) + (1 : Int32)) = (1 : Int32))]
      refine XS.goto X10.here hx rfl (pc0 := 84) (pc' := 47) rfl (hb hby d7_84) (by decide) (by decide) ?_
      refine XS.iload X10.here hx rfl (hb hby d7_47) rfl ?_
      refine XS.aloadN X10.here hx rfl (hb hby d7_49) rfl rfl ?_
      refine st77 _ ?_
      refine XS.iload X77.here hx rfl (hb hby d7_53) rfl ?_
      refine X77.iaload hx (j := (0 : Int32)) (v := (.int (3 : Int32))) (by rw [e77]; exact Ar11.1) (State.isArrayOf_alike hZ.alike Ar11.2.1) Ar11.2.2 hin78 (Has.at H11 hin78 rfl) (g := (mkF m 55 #[vR a1, vI 2, vI (-1), vI 2, vI 0, vR s0, vI 0, vI 1] [iI 0, iR bn, iI 1])) rfl rfl (hb hby d7_55) _ ?_
      refine XS.icmpNo X77.here hx rfl (hb hby d7_56) rfl (tlt (by decide : (1 : Int32) < (3 : Int32))).2.1 ?_
      refine XS.aload X77.here hx rfl (hb hby d7_59) rfl rfl ?_
      refine XS.iload X77.here hx rfl (hb hby d7_61) rfl ?_
      refine X77.iaload hx (j := (1 : Int32)) (v := (.int x1_)) (by rw [e77]; exact Ar14.1) (State.isArrayOf_alike hZ.alike Ar14.2.1) Ar14.2.2 hin80 (Has.at H14 hin80 rfl) (g := (mkF m 63 #[vR a1, vI 2, vI (-1), vI 2, vI 0, vR s0, vI 0, vI 1] [iI 1, iR s0])) rfl rfl (hb hby d7_63) _ ?_
      refine XS.iloadN X77.here hx rfl (hb hby d7_64) rfl ?_
      exact kt
    by_cases hc82 : x1_ < (2 : Int32)
    · have hin84 := inb_of (j := (1 : Int32)) S14 ⟨by decide, by decide⟩
      have hin86 := inb_of (j := (0 : Int32)) S14 ⟨by decide, by decide⟩
      obtain ⟨T87, h87, X87, e87, W87, st87⟩ := stI X77 hx hZ e77 Ar14 (j := (0 : Int32)) hin86 (g := (mkF m 80 #[vR a1, vI 2, vI (-1), vI 2, vI 0, vR s0, vI 1, vI 1] [iI x1_, iI 0, iR s0])) rfl rfl (hb hby d7_80)
      have V87 : Arv Z h87 s0 q0 .int (4 : Int32) (own_bs [x1_, x1_, x2_, x3_]) (.int (0 : Int32)) := Arv.set Ar14 q14 S14 M14 H14 G14 rfl W87 0 rfl (Nat.le_of_ble_eq_true rfl)
      have K87 : Keep h0 h87 [a1, bc, bn, s0, s1, s2] := K0.wr W87 (Or.inl (List.mem_of_getElem? (i := 3) rfl))
      have N87 := Fr.snoc X87 N0 g_s0
      have fk88 := (F_childCounts.other W87 (Or.inl ne_a1_s0))
      obtain ⟨T89, X89, e89, st89⟩ := gF X87 hx hZ hown (ww hw 24 rfl) e87 fk88 (g := (mkF m 50 #[vR a1, vI 2, vI (-1), vI 2, vI 0, vR s0, vI 1, vI 2] [iR a1, iI 2])) rfl rfl (hb hby d7_50)
      have fk90 := (V_bn.other W87 ne_bn_s0)
      obtain ⟨cl91, Ar91, q91, S91, M91, H91, G91⟩ := id fk90
      have hin92 := inb_of (j := (0 : Int32)) S91 ⟨by decide, by decide⟩
      obtain ⟨cl94, Ar94, q94, S94, M94, H94, G94⟩ := id V87
      have hin95 := inb_of (j := (2 : Int32)) S94 ⟨by decide, by decide⟩
      have pre98 : ∀ t, Steps p.tables e below (T89.setTop (mkF m 65 #[vR a1, vI 2, vI (-1), vI 2, vI 0, vR s0, vI 1, vI 2] [iI 2, iI x2_])) t → Steps p.tables e below (s₁.setTop (entryFrame m #[(.ref a1), (.int (2 : Int32))] 8)) t := by
        intro t kt
        refine pre83 t ?_
        refine XS.icmpNo X77.here hx rfl (hb hby d7_65) rfl (tlt hc82).2.1 ?_
        refine XS.aload X77.here hx rfl (hb hby d7_68) rfl rfl ?_
        refine XS.iload X77.here hx rfl (hb hby d7_70) rfl ?_
        refine XS.iinc X77.here hx rfl (hb hby d7_72) rfl (l' := #[vR a1, vI 2, vI (-1), vI 2, vI 0, vR s0, vI ((0 : Int32) + (1 : Int32)), vI 1]) rfl ?_
        rw [(by decide : ((0 : Int32) + (1 : Int32)) = (1 : Int32))]
        refine XS.aload X77.here hx rfl (hb hby d7_75) rfl rfl ?_
        refine XS.iload X77.here hx rfl (hb hby d7_77) rfl ?_
        show SA T77 m 79 #[vR a1, vI 2, vI (-1), vI 2, vI 0, vR s0, vI 1, vI 1] [iI 1, iR s0, iI 0, iR s0]
        refine X77.iaload hx (j := (1 : Int32)) (v := (.int x1_)) (by rw [e77]; exact Ar14.1) (State.isArrayOf_alike hZ.alike Ar14.2.1) Ar14.2.2 hin84 (Has.at H14 hin84 rfl) (g := (mkF m 79 #[vR a1, vI 2, vI (-1), vI 2, vI 0, vR s0, vI 1, vI 1] [iI 1, iR s0, iI 0, iR s0])) rfl rfl (hb hby d7_79) _ ?_
        refine st87 _ ?_
        refine XS.iinc X87.here hx rfl (hb hby d7_81) rfl (l' := #[vR a1, vI 2, vI (-1), vI 2, vI 0, vR s0, vI 1, vI ((1 : Int32) + (1 : Int32))]) rfl ?_
        rw [(by decide : ((1 : Int32) + (1 : Int32)) = (2 : Int32))]
        refine XS.goto X87.here hx rfl (pc0 := 84) (pc' := 47) rfl (hb hby d7_84) (by decide) (by decide) ?_
        refine XS.iload X87.here hx rfl (hb hby d7_47) rfl ?_
        refine XS.aloadN X87.here hx rfl (hb hby d7_49) rfl rfl ?_
        refine st89 _ ?_
        refine XS.iload X89.here hx rfl (hb hby d7_53) rfl ?_
        refine X89.iaload hx (j := (0 : Int32)) (v := (.int (3 : Int32))) (by rw [e89]; exact Ar91.1) (State.isArrayOf_alike hZ.alike Ar91.2.1) Ar91.2.2 hin92 (Has.at H91 hin92 rfl) (g := (mkF m 55 #[vR a1, vI 2, vI (-1), vI 2, vI 0, vR s0, vI 1, vI 2] [iI 0, iR bn, iI 2])) rfl rfl (hb hby d7_55) _ ?_
        refine XS.icmpNo X89.here hx rfl (hb hby d7_56) rfl (tlt (by decide : (2 : Int32) < (3 : Int32))).2.1 ?_
        refine XS.aload X89.here hx rfl (hb hby d7_59) rfl rfl ?_
        refine XS.iload X89.here hx rfl (hb hby d7_61) rfl ?_
        refine X89.iaload hx (j := (2 : Int32)) (v := (.int x2_)) (by rw [e89]; exact Ar94.1) (State.isArrayOf_alike hZ.alike Ar94.2.1) Ar94.2.2 hin95 (Has.at H94 hin95 rfl) (g := (mkF m 63 #[vR a1, vI 2, vI (-1), vI 2, vI 0, vR s0, vI 1, vI 2] [iI 2, iR s0])) rfl rfl (hb hby d7_63) _ ?_
        refine XS.iloadN X89.here hx rfl (hb hby d7_64) rfl ?_
        exact kt
      by_cases hc97 : x2_ < (2 : Int32)
      · exfalso; exact absurd hpat (by simp only [hc17, hc82, hc97, or_false, or_true, true_or, false_or, and_true, true_and, false_and, and_false, not_true_eq_false, not_false_eq_true])
      · obtain ⟨T99, X99, e99, st99⟩ := gF X89 hx hZ hown (ww hw 24 rfl) e89 fk88 (g := (mkF m 50 #[vR a1, vI 2, vI (-1), vI 2, vI 0, vR s0, vI 1, vI 3] [iR a1, iI 3])) rfl rfl (hb hby d7_50)
        have hin100 := inb_of (j := (0 : Int32)) S91 ⟨by decide, by decide⟩
        obtain ⟨T102, X102, e102, st102⟩ := gF X99 hx hZ hown (ww hw 24 rfl) e99 fk88 (g := (mkF m 88 #[vR a1, vI 2, vI (-1), vI 2, vI 0, vR s0, vI 1, vI 3] [iR a1])) rfl rfl (hb hby d7_88)
        have hin103 := inb_of (j := (0 : Int32)) S91 ⟨by decide, by decide⟩
        obtain ⟨T104, h104, X104, e104, W104, st104⟩ := stI X102 hx hZ e102 Ar91 (j := (0 : Int32)) hin103 (g := (mkF m 95 #[vR a1, vI 2, vI (-1), vI 2, vI 0, vR s0, vI 1, vI 3] [iI 1, iI 0, iR bn])) rfl rfl (hb hby d7_95)
        have V104 : Arv Z h104 bn kn .int (16 : Int32) (own_bs [1, 1, 2, 0, 0, 0, 0, 0, 0, 0, 0, 0, 0, 0, 0, 0]) (.int (0 : Int32)) := Arv.set Ar91 q91 S91 M91 H91 G91 rfl W104 0 rfl (Nat.le_of_ble_eq_true rfl)
        have K104 : Keep h0 h104 [a1, bc, bn, s0, s1, s2] := K87.wr W104 (Or.inl (List.mem_of_getElem? (i := 2) rfl))
        have N104 := Fr.snoc X104 N87 g_bn
        have fk105 := ((F_children.other W87 (Or.inl ne_a1_s0)).other W104 (Or.inl ne_a1_bn))
        obtain ⟨T106, X106, e106, st106⟩ := gF X104 hx hZ hown (ww hw 22 rfl) e104 fk105 (g := (mkF m 100 #[vR a1, vI 2, vI 0, vI 2, vI 0, vR s0, vI 1, vI 3] [iR a1])) rfl rfl (hb hby d7_100)
        have fk107 := ((V_bc.other W87 ne_bc_s0).other W104 ne_bc_bn)
        obtain ⟨cl108, Ar108, q108, S108, M108, H108, G108⟩ := id fk107
        have hin109 := inb_of (j := (2 : Int32)) S108 ⟨by decide, by decide⟩
        obtain ⟨T110, h110, X110, e110, W110, st110⟩ := stR X106 hx hZ e106 Ar108 (j := (2 : Int32)) (v := .null) hin109 rfl (Or.inl rfl) (g := (mkF m 105 #[vR a1, vI 2, vI 0, vI 2, vI 0, vR s0, vI 1, vI 3] [.null, iI 2, iR bc])) rfl rfl (hb hby d7_105)
        have V110 : Arv Z h110 bc kc (.array .int) (16 : Int32) [(.ref s0), (.ref s1), .null, .null, .null, .null, .null, .null, .null, .null, .null, .null, .null, .null, .null, .null] .null := Arv.set Ar108 q108 S108 M108 H108 G108 rfl W110 2 rfl (Nat.le_of_ble_eq_true rfl)
        have K110 : Keep h0 h110 [a1, bc, bn, s0, s1, s2] := K104.wr W110 (Or.inl (List.mem_of_getElem? (i := 1) rfl))
        have N110 := Fr.snoc X110 N104 g_bc
        have fk111 := ((fk88.other W104 (Or.inl ne_a1_bn)).other W110 (Or.inl ne_a1_bc))
        obtain ⟨T112, X112, e112, st112⟩ := gF X110 hx hZ hown (ww hw 24 rfl) e110 fk111 (g := (mkF m 107 #[vR a1, vI 2, vI 0, vI 2, vI 0, vR s0, vI 1, vI 3] [iR a1])) rfl rfl (hb hby d7_107)
        have fk113 := (V104.other W110 (Ne.symm ne_bc_bn))
        obtain ⟨cl114, Ar114, q114, S114, M114, H114, G114⟩ := id fk113
        have hin115 := inb_of (j := (2 : Int32)) S114 ⟨by decide, by decide⟩
        obtain ⟨T116, h116, X116, e116, W116, st116⟩ := stI X112 hx hZ e112 Ar114 (j := (2 : Int32)) hin115 (g := (mkF m 112 #[vR a1, vI 2, vI 0, vI 2, vI 0, vR s0, vI 1, vI 3] [iI 0, iI 2, iR bn])) rfl rfl (hb hby d7_112)
        have V116 : Arv Z h116 bn kn .int (16 : Int32) (own_bs [1, 1, 0, 0, 0, 0, 0, 0, 0, 0, 0, 0, 0, 0, 0, 0]) (.int (0 : Int32)) := Arv.set Ar114 q114 S114 M114 H114 G114 rfl W116 2 rfl (Nat.le_of_ble_eq_true rfl)
        have K116 : Keep h0 h116 [a1, bc, bn, s0, s1, s2] := K110.wr W116 (Or.inl (List.mem_of_getElem? (i := 2) rfl))
        have N116 := Fr.snoc X116 N110 g_bn
        have fk117 := ((((E_a1.wr W87).wr W104).wr W110).wr W116)
        have fk118 := ((((F_size.other W87 (Or.inl ne_a1_s0)).other W104 (Or.inl ne_a1_bn)).other W110 (Or.inl ne_a1_bc)).other W116 (Or.inl ne_a1_bn))
        have fk119 := ((((F_items.other W87 (Or.inl ne_a1_s0)).other W104 (Or.inl ne_a1_bn)).other W110 (Or.inl ne_a1_bc)).other W116 (Or.inl ne_a1_bn))
        have fk120 := ((((V_bi.other W87 ne_bi_s0).other W104 ne_bi_bn).other W110 ne_bi_bc).other W116 ne_bi_bn)
        have fk121 := ((((F_sameEvents.other W87 (Or.inl ne_a1_s0)).other W104 (Or.inl ne_a1_bn)).other W110 (Or.inl ne_a1_bc)).other W116 (Or.inl ne_a1_bn))
        have fk122 := ((((V_bf.other W87 ne_bf_s0).other W104 ne_bf_bn).other W110 ne_bf_bc).other W116 ne_bf_bn)
        have fk123 := ((((F_parents.other W87 (Or.inl ne_a1_s0)).other W104 (Or.inl ne_a1_bn)).other W110 (Or.inl ne_a1_bc)).other W116 (Or.inl ne_a1_bn))
        have fk124 := ((((V_bp.other W87 ne_bp_s0).other W104 ne_bp_bn).other W110 ne_bp_bc).other W116 ne_bp_bn)
        have fk125 := ((fk105.other W110 (Or.inl ne_a1_bc)).other W116 (Or.inl ne_a1_bn))
        have fk126 := (V110.other W116 ne_bc_bn)
        have fk127 := (fk111.other W116 (Or.inl ne_a1_bn))
        have fk128 := (((V87.other W104 (Ne.symm ne_bn_s0)).other W110 (Ne.symm ne_bc_s0)).other W116 (Ne.symm ne_bn_s0))
        have fk129 := ((((E_s0.wr W87).wr W104).wr W110).wr W116)
        have fk130 := ((((V_s1.other W87 (Ne.symm ne_s0_s1)).other W104 (Ne.symm ne_bn_s1)).other W110 (Ne.symm ne_bc_s1)).other W116 (Ne.symm ne_bn_s1))
        have fk131 := ((((E_s1.wr W87).wr W104).wr W110).wr W116)
        have fk132 := ((((V_s2.other W87 (Ne.symm ne_s0_s2)).other W104 (Ne.symm ne_bn_s2)).other W110 (Ne.symm ne_bc_s2)).other W116 (Ne.symm ne_bn_s2))
        have fk133 := ((((E_s2.wr W87).wr W104).wr W110).wr W116)
        have pre134 : ∀ t, Steps p.tables e below (T116.setTop (mkF m 4 #[vR a1, vI 2, vI 0, vI 3, vI 0, vR s0, vI 1, vI 3] [])) t → Steps p.tables e below (s₁.setTop (entryFrame m #[(.ref a1), (.int (2 : Int32))] 8)) t := by
          intro t kt
          refine pre98 t ?_
          refine XS.icmpYes X89.here hx rfl (pc0 := 65) (pc' := 81) rfl (hb hby d7_65) rfl (flt hc97).2.1 (by decide) (by decide) ?_
          refine XS.iinc X89.here hx rfl (hb hby d7_81) rfl (l' := #[vR a1, vI 2, vI (-1), vI 2, vI 0, vR s0, vI 1, vI ((2 : Int32) + (1 : Int32))]) rfl ?_
          rw [(by decide : ((2 : Int32) + (1 : Int32)) = (3 : Int32))]
          refine XS.goto X89.here hx rfl (pc0 := 84) (pc' := 47) rfl (hb hby d7_84) (by decide) (by decide) ?_
          refine XS.iload X89.here hx rfl (hb hby d7_47) rfl ?_
          refine XS.aloadN X89.here hx rfl (hb hby d7_49) rfl rfl ?_
          refine st99 _ ?_
          refine XS.iload X99.here hx rfl (hb hby d7_53) rfl ?_
          refine X99.iaload hx (j := (0 : Int32)) (v := (.int (3 : Int32))) (by rw [e99]; exact Ar91.1) (State.isArrayOf_alike hZ.alike Ar91.2.1) Ar91.2.2 hin100 (Has.at H91 hin100 rfl) (g := (mkF m 55 #[vR a1, vI 2, vI (-1), vI 2, vI 0, vR s0, vI 1, vI 3] [iI 0, iR bn, iI 3])) rfl rfl (hb hby d7_55) _ ?_
          refine XS.icmpYes X99.here hx rfl (pc0 := 56) (pc' := 87) rfl (hb hby d7_56) rfl (flt (by decide : ¬ ((3 : Int32) < (3 : Int32)))).2.1 (by decide) (by decide) ?_
          refine XS.aloadN X99.here hx rfl (hb hby d7_87) rfl rfl ?_
          refine st102 _ ?_
          refine XS.iload X102.here hx rfl (hb hby d7_91) rfl ?_
          refine XS.iload X102.here hx rfl (hb hby d7_93) rfl ?_
          refine st104 _ ?_
          refine XS.iload X104.here hx rfl (hb hby d7_96) rfl ?_
          refine XS.istoreN X104.here hx rfl (hb hby d7_98) rfl (l' := #[vR a1, vI 2, vI 0, vI 2, vI 0, vR s0, vI 1, vI 3]) rfl ?_
          refine XS.aloadN X104.here hx rfl (hb hby d7_99) rfl rfl ?_
          refine st106 _ ?_
          refine XS.iloadN X106.here hx rfl (hb hby d7_103) rfl ?_
          refine XS.aconstNull X106.here hx rfl (hb hby d7_104) ?_
          refine st110 _ ?_
          refine XS.aloadN X110.here hx rfl (hb hby d7_106) rfl rfl ?_
          refine st112 _ ?_
          refine XS.iloadN X112.here hx rfl (hb hby d7_110) rfl ?_
          refine XS.iconst X112.here hx rfl (hb hby d7_111) ?_
          refine st116 _ ?_
          refine XS.iinc X116.here hx rfl (hb hby d7_113) rfl (l' := #[vR a1, vI 2, vI 0, vI ((2 : Int32) + (1 : Int32)), vI 0, vR s0, vI 1, vI 3]) rfl ?_
          rw [(by decide : ((2 : Int32) + (1 : Int32)) = (3 : Int32))]
          refine XS.goto X116.here hx rfl (pc0 := 116) (pc' := 4) rfl (hb hby d7_116) (by decide) (by decide) ?_
          exact kt
        obtain ⟨s₂, o₂, hs₂, hr₂⟩ := own_t7_2 (IL := IL) (FL := FL) (x0_ := x0_) (x1_ := x1_) (x2_ := x2_) (x3_ := x3_) (w0_ := x1_) (w1_ := x1_) (w2_ := x2_) (w3_ := x3_) (y1_ := y1_) (y2_ := y2_) (y3_ := y3_) (z0_ := z0_) (z1_ := z1_) (z2_ := z2_) (z3_ := z3_) X116 hx hZ hw hby hml hown Bd.returns (by first | assumption | exact BodyLoose.notSynchronized (by assumption) | exact Body.notSynchronized (by assumption)) e116 K116 N116 Z0 fk117 fk118 fk119 fk120 fk121 fk122 fk123 fk124 fk125 fk126 fk127 V116 fk128 fk129 fk130 fk131 fk132 fk133 hpr1 hpr2 hpr3 hpr4 hpr5 hpr6 g_a1 g_bi g_bf g_bp g_bc g_bn g_s0 g_s1 g_s2 ne_a1_bi ne_a1_bf ne_a1_bp ne_a1_bc ne_a1_bn ne_a1_s0 ne_a1_s1 ne_a1_s2 ne_bi_bf ne_bi_bp ne_bi_bc ne_bi_bn ne_bi_s0 ne_bi_s1 ne_bi_s2 ne_bf_bp ne_bf_bc ne_bf_bn ne_bf_s0 ne_bf_s1 ne_bf_s2 ne_bp_bc ne_bp_bn ne_bp_s0 ne_bp_s1 ne_bp_s2 ne_bc_bn ne_bc_s0 ne_bc_s1 ne_bc_s2 ne_bn_s0 ne_bn_s1 ne_bn_s2 ne_s0_s1 ne_s0_s2 ne_s1_s2 hc82 ⟨fun h => absurd h hc17, fun _ => rfl, fun h => absurd h hc97⟩
        exact ⟨s₂, o₂, pre134 _ hs₂, hr₂⟩
    · obtain ⟨T135, X135, e135, st135⟩ := gF X77 hx hZ hown (ww hw 24 rfl) e77 F_childCounts (g := (mkF m 50 #[vR a1, vI 2, vI (-1), vI 2, vI 0, vR s0, vI 0, vI 2] [iR a1, iI 2])) rfl rfl (hb hby d7_50)
      have hin136 := inb_of (j := (0 : Int32)) S11 ⟨by decide, by decide⟩
      have hin138 := inb_of (j := (2 : Int32)) S14 ⟨by decide, by decide⟩
      have pre141 : ∀ t, Steps p.tables e below (T135.setTop (mkF m 65 #[vR a1, vI 2, vI (-1), vI 2, vI 0, vR s0, vI 0, vI 2] [iI 2, iI x2_])) t → Steps p.tables e below (s₁.setTop (entryFrame m #[(.ref a1), (.int (2 : Int32))] 8)) t := by
        intro t kt
        refine pre83 t ?_
        refine XS.icmpYes X77.here hx rfl (pc0 := 65) (pc' := 81) rfl (hb hby d7_65) rfl (flt hc82).2.1 (by decide) (by decide) ?_
        refine XS.iinc X77.here hx rfl (hb hby d7_81) rfl (l' := #[vR a1, vI 2, vI (-1), vI 2, vI 0, vR s0, vI 0, vI ((1 : Int32) + (1 : Int32))]) rfl ?_
        rw [(by decide : ((1 : Int32) + (1 : Int32)) = (2 : Int32))]
        refine XS.goto X77.here hx rfl (pc0 := 84) (pc' := 47) rfl (hb hby d7_84) (by decide) (by decide) ?_
        refine XS.iload X77.here hx rfl (hb hby d7_47) rfl ?_
        refine XS.aloadN X77.here hx rfl (hb hby d7_49) rfl rfl ?_
        refine st135 _ ?_
        refine XS.iload X135.here hx rfl (hb hby d7_53) rfl ?_
        refine X135.iaload hx (j := (0 : Int32)) (v := (.int (3 : Int32))) (by rw [e135]; exact Ar11.1) (State.isArrayOf_alike hZ.alike Ar11.2.1) Ar11.2.2 hin136 (Has.at H11 hin136 rfl) (g := (mkF m 55 #[vR a1, vI 2, vI (-1), vI 2, vI 0, vR s0, vI 0, vI 2] [iI 0, iR bn, iI 2])) rfl rfl (hb hby d7_55) _ ?_
        refine XS.icmpNo X135.here hx rfl (hb hby d7_56) rfl (tlt (by decide : (2 : Int32) < (3 : Int32))).2.1 ?_
        refine XS.aload X135.here hx rfl (hb hby d7_59) rfl rfl ?_
        refine XS.iload X135.here hx rfl (hb hby d7_61) rfl ?_
        refine X135.iaload hx (j := (2 : Int32)) (v := (.int x2_)) (by rw [e135]; exact Ar14.1) (State.isArrayOf_alike hZ.alike Ar14.2.1) Ar14.2.2 hin138 (Has.at H14 hin138 rfl) (g := (mkF m 63 #[vR a1, vI 2, vI (-1), vI 2, vI 0, vR s0, vI 0, vI 2] [iI 2, iR s0])) rfl rfl (hb hby d7_63) _ ?_
        refine XS.iloadN X135.here hx rfl (hb hby d7_64) rfl ?_
        exact kt
      by_cases hc140 : x2_ < (2 : Int32)
      · have hin142 := inb_of (j := (2 : Int32)) S14 ⟨by decide, by decide⟩
        have hin144 := inb_of (j := (0 : Int32)) S14 ⟨by decide, by decide⟩
        obtain ⟨T145, h145, X145, e145, W145, st145⟩ := stI X135 hx hZ e135 Ar14 (j := (0 : Int32)) hin144 (g := (mkF m 80 #[vR a1, vI 2, vI (-1), vI 2, vI 0, vR s0, vI 1, vI 2] [iI x2_, iI 0, iR s0])) rfl rfl (hb hby d7_80)
        have V145 : Arv Z h145 s0 q0 .int (4 : Int32) (own_bs [x2_, x1_, x2_, x3_]) (.int (0 : Int32)) := Arv.set Ar14 q14 S14 M14 H14 G14 rfl W145 0 rfl (Nat.le_of_ble_eq_true rfl)
        have K145 : Keep h0 h145 [a1, bc, bn, s0, s1, s2] := K0.wr W145 (Or.inl (List.mem_of_getElem? (i := 3) rfl))
        have N145 := Fr.snoc X145 N0 g_s0
        have fk146 := (F_childCounts.other W145 (Or.inl ne_a1_s0))
        obtain ⟨T147, X147, e147, st147⟩ := gF X145 hx hZ hown (ww hw 24 rfl) e145 fk146 (g := (mkF m 50 #[vR a1, vI 2, vI (-1), vI 2, vI 0, vR s0, vI 1, vI 3] [iR a1, iI 3])) rfl rfl (hb hby d7_50)
        have fk148 := (V_bn.other W145 ne_bn_s0)
        obtain ⟨cl149, Ar149, q149, S149, M149, H149, G149⟩ := id fk148
        have hin150 := inb_of (j := (0 : Int32)) S149 ⟨by decide, by decide⟩
        obtain ⟨T152, X152, e152, st152⟩ := gF X147 hx hZ hown (ww hw 24 rfl) e147 fk146 (g := (mkF m 88 #[vR a1, vI 2, vI (-1), vI 2, vI 0, vR s0, vI 1, vI 3] [iR a1])) rfl rfl (hb hby d7_88)
        have hin153 := inb_of (j := (0 : Int32)) S149 ⟨by decide, by decide⟩
        obtain ⟨T154, h154, X154, e154, W154, st154⟩ := stI X152 hx hZ e152 Ar149 (j := (0 : Int32)) hin153 (g := (mkF m 95 #[vR a1, vI 2, vI (-1), vI 2, vI 0, vR s0, vI 1, vI 3] [iI 1, iI 0, iR bn])) rfl rfl (hb hby d7_95)
        have V154 : Arv Z h154 bn kn .int (16 : Int32) (own_bs [1, 1, 2, 0, 0, 0, 0, 0, 0, 0, 0, 0, 0, 0, 0, 0]) (.int (0 : Int32)) := Arv.set Ar149 q149 S149 M149 H149 G149 rfl W154 0 rfl (Nat.le_of_ble_eq_true rfl)
        have K154 : Keep h0 h154 [a1, bc, bn, s0, s1, s2] := K145.wr W154 (Or.inl (List.mem_of_getElem? (i := 2) rfl))
        have N154 := Fr.snoc X154 N145 g_bn
        have fk155 := ((F_children.other W145 (Or.inl ne_a1_s0)).other W154 (Or.inl ne_a1_bn))
        obtain ⟨T156, X156, e156, st156⟩ := gF X154 hx hZ hown (ww hw 22 rfl) e154 fk155 (g := (mkF m 100 #[vR a1, vI 2, vI 0, vI 2, vI 0, vR s0, vI 1, vI 3] [iR a1])) rfl rfl (hb hby d7_100)
        have fk157 := ((V_bc.other W145 ne_bc_s0).other W154 ne_bc_bn)
        obtain ⟨cl158, Ar158, q158, S158, M158, H158, G158⟩ := id fk157
        have hin159 := inb_of (j := (2 : Int32)) S158 ⟨by decide, by decide⟩
        obtain ⟨T160, h160, X160, e160, W160, st160⟩ := stR X156 hx hZ e156 Ar158 (j := (2 : Int32)) (v := .null) hin159 rfl (Or.inl rfl) (g := (mkF m 105 #[vR a1, vI 2, vI 0, vI 2, vI 0, vR s0, vI 1, vI 3] [.null, iI 2, iR bc])) rfl rfl (hb hby d7_105)
        have V160 : Arv Z h160 bc kc (.array .int) (16 : Int32) [(.ref s0), (.ref s1), .null, .null, .null, .null, .null, .null, .null, .null, .null, .null, .null, .null, .null, .null] .null := Arv.set Ar158 q158 S158 M158 H158 G158 rfl W160 2 rfl (Nat.le_of_ble_eq_true rfl)
        have K160 : Keep h0 h160 [a1, bc, bn, s0, s1, s2] := K154.wr W160 (Or.inl (List.mem_of_getElem? (i := 1) rfl))
        have N160 := Fr.snoc X160 N154 g_bc
        have fk161 := ((fk146.other W154 (Or.inl ne_a1_bn)).other W160 (Or.inl ne_a1_bc))
        obtain ⟨T162, X162, e162, st162⟩ := gF X160 hx hZ hown (ww hw 24 rfl) e160 fk161 (g := (mkF m 107 #[vR a1, vI 2, vI 0, vI 2, vI 0, vR s0, vI 1, vI 3] [iR a1])) rfl rfl (hb hby d7_107)
        have fk163 := (V154.other W160 (Ne.symm ne_bc_bn))
        obtain ⟨cl164, Ar164, q164, S164, M164, H164, G164⟩ := id fk163
        have hin165 := inb_of (j := (2 : Int32)) S164 ⟨by decide, by decide⟩
        obtain ⟨T166, h166, X166, e166, W166, st166⟩ := stI X162 hx hZ e162 Ar164 (j := (2 : Int32)) hin165 (g := (mkF m 112 #[vR a1, vI 2, vI 0, vI 2, vI 0, vR s0, vI 1, vI 3] [iI 0, iI 2, iR bn])) rfl rfl (hb hby d7_112)
        have V166 : Arv Z h166 bn kn .int (16 : Int32) (own_bs [1, 1, 0, 0, 0, 0, 0, 0, 0, 0, 0, 0, 0, 0, 0, 0]) (.int (0 : Int32)) := Arv.set Ar164 q164 S164 M164 H164 G164 rfl W166 2 rfl (Nat.le_of_ble_eq_true rfl)
        have K166 : Keep h0 h166 [a1, bc, bn, s0, s1, s2] := K160.wr W166 (Or.inl (List.mem_of_getElem? (i := 2) rfl))
        have N166 := Fr.snoc X166 N160 g_bn
        have fk167 := ((((E_a1.wr W145).wr W154).wr W160).wr W166)
        have fk168 := ((((F_size.other W145 (Or.inl ne_a1_s0)).other W154 (Or.inl ne_a1_bn)).other W160 (Or.inl ne_a1_bc)).other W166 (Or.inl ne_a1_bn))
        have fk169 := ((((F_items.other W145 (Or.inl ne_a1_s0)).other W154 (Or.inl ne_a1_bn)).other W160 (Or.inl ne_a1_bc)).other W166 (Or.inl ne_a1_bn))
        have fk170 := ((((V_bi.other W145 ne_bi_s0).other W154 ne_bi_bn).other W160 ne_bi_bc).other W166 ne_bi_bn)
        have fk171 := ((((F_sameEvents.other W145 (Or.inl ne_a1_s0)).other W154 (Or.inl ne_a1_bn)).other W160 (Or.inl ne_a1_bc)).other W166 (Or.inl ne_a1_bn))
        have fk172 := ((((V_bf.other W145 ne_bf_s0).other W154 ne_bf_bn).other W160 ne_bf_bc).other W166 ne_bf_bn)
        have fk173 := ((((F_parents.other W145 (Or.inl ne_a1_s0)).other W154 (Or.inl ne_a1_bn)).other W160 (Or.inl ne_a1_bc)).other W166 (Or.inl ne_a1_bn))
        have fk174 := ((((V_bp.other W145 ne_bp_s0).other W154 ne_bp_bn).other W160 ne_bp_bc).other W166 ne_bp_bn)
        have fk175 := ((fk155.other W160 (Or.inl ne_a1_bc)).other W166 (Or.inl ne_a1_bn))
        have fk176 := (V160.other W166 ne_bc_bn)
        have fk177 := (fk161.other W166 (Or.inl ne_a1_bn))
        have fk178 := (((V145.other W154 (Ne.symm ne_bn_s0)).other W160 (Ne.symm ne_bc_s0)).other W166 (Ne.symm ne_bn_s0))
        have fk179 := ((((E_s0.wr W145).wr W154).wr W160).wr W166)
        have fk180 := ((((V_s1.other W145 (Ne.symm ne_s0_s1)).other W154 (Ne.symm ne_bn_s1)).other W160 (Ne.symm ne_bc_s1)).other W166 (Ne.symm ne_bn_s1))
        have fk181 := ((((E_s1.wr W145).wr W154).wr W160).wr W166)
        have fk182 := ((((V_s2.other W145 (Ne.symm ne_s0_s2)).other W154 (Ne.symm ne_bn_s2)).other W160 (Ne.symm ne_bc_s2)).other W166 (Ne.symm ne_bn_s2))
        have fk183 := ((((E_s2.wr W145).wr W154).wr W160).wr W166)
        have pre184 : ∀ t, Steps p.tables e below (T166.setTop (mkF m 4 #[vR a1, vI 2, vI 0, vI 3, vI 0, vR s0, vI 1, vI 3] [])) t → Steps p.tables e below (s₁.setTop (entryFrame m #[(.ref a1), (.int (2 : Int32))] 8)) t := by
          intro t kt
          refine pre141 t ?_
          refine XS.icmpNo X135.here hx rfl (hb hby d7_65) rfl (tlt hc140).2.1 ?_
          refine XS.aload X135.here hx rfl (hb hby d7_68) rfl rfl ?_
          refine XS.iload X135.here hx rfl (hb hby d7_70) rfl ?_
          refine XS.iinc X135.here hx rfl (hb hby d7_72) rfl (l' := #[vR a1, vI 2, vI (-1), vI 2, vI 0, vR s0, vI ((0 : Int32) + (1 : Int32)), vI 2]) rfl ?_
          rw [(by decide : ((0 : Int32) + (1 : Int32)) = (1 : Int32))]
          refine XS.aload X135.here hx rfl (hb hby d7_75) rfl rfl ?_
          refine XS.iload X135.here hx rfl (hb hby d7_77) rfl ?_
          show SA T135 m 79 #[vR a1, vI 2, vI (-1), vI 2, vI 0, vR s0, vI 1, vI 2] [iI 2, iR s0, iI 0, iR s0]
          refine X135.iaload hx (j := (2 : Int32)) (v := (.int x2_)) (by rw [e135]; exact Ar14.1) (State.isArrayOf_alike hZ.alike Ar14.2.1) Ar14.2.2 hin142 (Has.at H14 hin142 rfl) (g := (mkF m 79 #[vR a1, vI 2, vI (-1), vI 2, vI 0, vR s0, vI 1, vI 2] [iI 2, iR s0, iI 0, iR s0])) rfl rfl (hb hby d7_79) _ ?_
          refine st145 _ ?_
          refine XS.iinc X145.here hx rfl (hb hby d7_81) rfl (l' := #[vR a1, vI 2, vI (-1), vI 2, vI 0, vR s0, vI 1, vI ((2 : Int32) + (1 : Int32))]) rfl ?_
          rw [(by decide : ((2 : Int32) + (1 : Int32)) = (3 : Int32))]
          refine XS.goto X145.here hx rfl (pc0 := 84) (pc' := 47) rfl (hb hby d7_84) (by decide) (by decide) ?_
          refine XS.iload X145.here hx rfl (hb hby d7_47) rfl ?_
          refine XS.aloadN X145.here hx rfl (hb hby d7_49) rfl rfl ?_
          refine st147 _ ?_
          refine XS.iload X147.here hx rfl (hb hby d7_53) rfl ?_
          refine X147.iaload hx (j := (0 : Int32)) (v := (.int (3 : Int32))) (by rw [e147]; exact Ar149.1) (State.isArrayOf_alike hZ.alike Ar149.2.1) Ar149.2.2 hin150 (Has.at H149 hin150 rfl) (g := (mkF m 55 #[vR a1, vI 2, vI (-1), vI 2, vI 0, vR s0, vI 1, vI 3] [iI 0, iR bn, iI 3])) rfl rfl (hb hby d7_55) _ ?_
          refine XS.icmpYes X147.here hx rfl (pc0 := 56) (pc' := 87) rfl (hb hby d7_56) rfl (flt (by decide : ¬ ((3 : Int32) < (3 : Int32)))).2.1 (by decide) (by decide) ?_
          refine XS.aloadN X147.here hx rfl (hb hby d7_87) rfl rfl ?_
          refine st152 _ ?_
          refine XS.iload X152.here hx rfl (hb hby d7_91) rfl ?_
          refine XS.iload X152.here hx rfl (hb hby d7_93) rfl ?_
          refine st154 _ ?_
          refine XS.iload X154.here hx rfl (hb hby d7_96) rfl ?_
          refine XS.istoreN X154.here hx rfl (hb hby d7_98) rfl (l' := #[vR a1, vI 2, vI 0, vI 2, vI 0, vR s0, vI 1, vI 3]) rfl ?_
          refine XS.aloadN X154.here hx rfl (hb hby d7_99) rfl rfl ?_
          refine st156 _ ?_
          refine XS.iloadN X156.here hx rfl (hb hby d7_103) rfl ?_
          refine XS.aconstNull X156.here hx rfl (hb hby d7_104) ?_
          refine st160 _ ?_
          refine XS.aloadN X160.here hx rfl (hb hby d7_106) rfl rfl ?_
          refine st162 _ ?_
          refine XS.iloadN X162.here hx rfl (hb hby d7_110) rfl ?_
          refine XS.iconst X162.here hx rfl (hb hby d7_111) ?_
          refine st166 _ ?_
          refine XS.iinc X166.here hx rfl (hb hby d7_113) rfl (l' := #[vR a1, vI 2, vI 0, vI ((2 : Int32) + (1 : Int32)), vI 0, vR s0, vI 1, vI 3]) rfl ?_
          rw [(by decide : ((2 : Int32) + (1 : Int32)) = (3 : Int32))]
          refine XS.goto X166.here hx rfl (pc0 := 116) (pc' := 4) rfl (hb hby d7_116) (by decide) (by decide) ?_
          exact kt
        obtain ⟨s₂, o₂, hs₂, hr₂⟩ := own_t7_2 (IL := IL) (FL := FL) (x0_ := x0_) (x1_ := x1_) (x2_ := x2_) (x3_ := x3_) (w0_ := x2_) (w1_ := x1_) (w2_ := x2_) (w3_ := x3_) (y1_ := y1_) (y2_ := y2_) (y3_ := y3_) (z0_ := z0_) (z1_ := z1_) (z2_ := z2_) (z3_ := z3_) X166 hx hZ hw hby hml hown Bd.returns (by first | assumption | exact BodyLoose.notSynchronized (by assumption) | exact Body.notSynchronized (by assumption)) e166 K166 N166 Z0 fk167 fk168 fk169 fk170 fk171 fk172 fk173 fk174 fk175 fk176 fk177 V166 fk178 fk179 fk180 fk181 fk182 fk183 hpr1 hpr2 hpr3 hpr4 hpr5 hpr6 g_a1 g_bi g_bf g_bp g_bc g_bn g_s0 g_s1 g_s2 ne_a1_bi ne_a1_bf ne_a1_bp ne_a1_bc ne_a1_bn ne_a1_s0 ne_a1_s1 ne_a1_s2 ne_bi_bf ne_bi_bp ne_bi_bc ne_bi_bn ne_bi_s0 ne_bi_s1 ne_bi_s2 ne_bf_bp ne_bf_bc ne_bf_bn ne_bf_s0 ne_bf_s1 ne_bf_s2 ne_bp_bc ne_bp_bn ne_bp_s0 ne_bp_s1 ne_bp_s2 ne_bc_bn ne_bc_s0 ne_bc_s1 ne_bc_s2 ne_bn_s0 ne_bn_s1 ne_bn_s2 ne_s0_s1 ne_s0_s2 ne_s1_s2 hc140 ⟨fun h => absurd h hc17, fun h => absurd h hc82, fun _ => rfl⟩
        exact ⟨s₂, o₂, pre184 _ hs₂, hr₂⟩
      · exfalso; exact absurd hpat (by simp only [hc17, hc82, hc140, or_false, or_true, true_or, false_or, and_true, true_and, false_and, and_false, not_true_eq_false, not_false_eq_true])

theorem own_t7_x {p : Program} {l : Launch} {e : Env} {s : State} {m : MethodId} {below : List Frame} {meth : Method} {c : Code} {T0 : State} {locs : List Loc} {Z : State} {a0 : Array Value} {h0 hT : Heap} {n0 : Nat} {a1 : Addr} {bi bf bp bc bn : Addr} {ki kf kp kc kn : ClassId} {IL FL PL : List Int32} {s0 s1 s2 : Addr} {q0 q1 q2 : ClassId} {x0_ x1_ x2_ x3_ y1_ y2_ y3_ z0_ z1_ z2_ z3_ : Int32} {w0_ w1_ w2_ w3_ c4_ c6_ c7_ K_ n1_ : Int32} {c5_ : Addr}
    (X0 : Stand p l e ({ frames := 0, cells := 0, slots := 0, locals := 0 } : Room) s m #[(.ref a1), (.int K_)] below meth c T0 locs 0 0) (hx : p.tables.exec = Jvm.exec) (hZ : Z.Warmed39 s.vm) (hw : ∀ d ∈ tables_1, d.before a0 Z = true) (hby : c.code = prog_23_method_4_code) (hml : c.maxLocals = 8) (hown : s.vm.findClass "com/example/tidemine/tidemine/PatternTrie" = some m.cls) (hret : meth.sig.returnType = none) (hlocks : meth.locks = false) (e0 : T0.heap = hT) (Kt0 : Keep h0 hT [a1, bc, bn, s0, s1, s2]) (N0 : Fr n0 locs) (Z0 : n0 ≤ h0.size) (E_a1 : Exa Z hT a1 "com/example/tidemine/tidemine/PatternTrie") (F_size : Fld Z hT a1 "com/example/tidemine/tidemine/PatternTrie" "size" "I" (.int (7 : Int32))) (F_items : Fld Z hT a1 "com/example/tidemine/tidemine/PatternTrie" "items" "[I" (.ref bi)) (V_bi : Arv Z hT bi ki .int (16 : Int32) (own_bs IL) (.int (0 : Int32))) (F_sameEvents : Fld Z hT a1 "com/example/tidemine/tidemine/PatternTrie" "sameEvents" "[Z" (.ref bf)) (V_bf : Arv Z hT bf kf .boolean (16 : Int32) (own_bs FL) (.int (0 : Int32))) (F_parents : Fld Z hT a1 "com/example/tidemine/tidemine/PatternTrie" "parents" "[I" (.ref bp)) (V_bp : Arv Z hT bp kp .int (16 : Int32) (own_bs PL) (.int (0 : Int32))) (F_children : Fld Z hT a1 "com/example/tidemine/tidemine/PatternTrie" "children" "[[I" (.ref bc)) (V_bc : Arv Z hT bc kc (.array .int) (16 : Int32) [(.ref s0), (.ref s1), (.ref s2), .null, .null, .null, .null, .null, .null, .null, .null, .null, .null, .null, .null, .null] .null) (F_childCounts : Fld Z hT a1 "com/example/tidemine/tidemine/PatternTrie" "childCounts" "[I" (.ref bn)) (V_bn : Arv Z hT bn kn .int (16 : Int32) (own_bs [2, n1_, 2, 0, 0, 0, 0, 0, 0, 0, 0, 0, 0, 0, 0, 0]) (.int (0 : Int32))) (V_s0 : Arv Z hT s0 q0 .int (4 : Int32) (own_bs [w0_, w1_, w2_, w3_]) (.int (0 : Int32))) (E_s0 : Exa Z hT s0 "[I") (V_s1 : Arv Z hT s1 q1 .int (4 : Int32) (own_bs [3, y1_, y2_, y3_]) (.int (0 : Int32))) (E_s1 : Exa Z hT s1 "[I") (V_s2 : Arv Z hT s2 q2 .int (4 : Int32) (own_bs [z0_, z1_, z2_, z3_]) (.int (0 : Int32))) (E_s2 : Exa Z hT s2 "[I") (hpr1 : PL.getD 1 0 = (0 : Int32)) (hpr2 : PL.getD 2 0 = (0 : Int32)) (hpr3 : PL.getD 3 0 = (1 : Int32)) (hpr4 : PL.getD 4 0 = (0 : Int32)) (hpr5 : PL.getD 5 0 = (2 : Int32)) (hpr6 : PL.getD 6 0 = (2 : Int32)) (g_a1 : n0 ≤ a1) (g_bi : n0 ≤ bi) (g_bf : n0 ≤ bf) (g_bp : n0 ≤ bp) (g_bc : n0 ≤ bc) (g_bn : n0 ≤ bn) (g_s0 : n0 ≤ s0) (g_s1 : n0 ≤ s1) (g_s2 : n0 ≤ s2) (ne_a1_bi : a1 ≠ bi) (ne_a1_bf : a1 ≠ bf) (ne_a1_bp : a1 ≠ bp) (ne_a1_bc : a1 ≠ bc) (ne_a1_bn : a1 ≠ bn) (ne_a1_s0 : a1 ≠ s0) (ne_a1_s1 : a1 ≠ s1) (ne_a1_s2 : a1 ≠ s2) (ne_bi_bf : bi ≠ bf) (ne_bi_bp : bi ≠ bp) (ne_bi_bc : bi ≠ bc) (ne_bi_bn : bi ≠ bn) (ne_bi_s0 : bi ≠ s0) (ne_bi_s1 : bi ≠ s1) (ne_bi_s2 : bi ≠ s2) (ne_bf_bp : bf ≠ bp) (ne_bf_bc : bf ≠ bc) (ne_bf_bn : bf ≠ bn) (ne_bf_s0 : bf ≠ s0) (ne_bf_s1 : bf ≠ s1) (ne_bf_s2 : bf ≠ s2) (ne_bp_bc : bp ≠ bc) (ne_bp_bn : bp ≠ bn) (ne_bp_s0 : bp ≠ s0) (ne_bp_s1 : bp ≠ s1) (ne_bp_s2 : bp ≠ s2) (ne_bc_bn : bc ≠ bn) (ne_bc_s0 : bc ≠ s0) (ne_bc_s1 : bc ≠ s1) (ne_bc_s2 : bc ≠ s2) (ne_bn_s0 : bn ≠ s0) (ne_bn_s1 : bn ≠ s1) (ne_bn_s2 : bn ≠ s2) (ne_s0_s1 : s0 ≠ s1) (ne_s0_s2 : s0 ≠ s2) (ne_s1_s2 : s1 ≠ s2) (h_k2 : (2 : Int32) < K_) (h_z0_ : ¬ (z0_ < K_)) (h_z1_ : ¬ (z1_ < K_)) (hrel : (¬ x0_ < K_ → w0_ = x1_ ∧ w1_ = x2_) ∧ (¬ x1_ < K_ → w0_ = x0_ ∧ w1_ = x2_) ∧ (¬ x2_ < K_ → w0_ = x0_ ∧ w1_ = x1_)) :
    ∃ s₂ o, Steps p.tables e below (T0.setTop (mkF m 4 #[vR a1, vI K_, vI 0, vI 5, vI c4_, vR c5_, vI c6_, vI c7_] [])) s₂ ∧ s₂.status = .running ∧ Ended s₂ below o ∧ ∃ v L, o = .returned v ∧ own_QT34 Z a1 bi bf bp bc bn ki kf kp kc kn IL FL PL s0 s1 s2 q0 q1 q2 x0_ x1_ x2_ x3_ y1_ y2_ y3_ z0_ z1_ z2_ z3_ h0 n0 K_ n1_ v s₂.heap L ∧ FrameEnd s o s₂ L ({ frames := 0, cells := 0, slots := 0, locals := 0 } : Room).cells ({ frames := 0, cells := 0, slots := 0, locals := 0 } : Room).slots := by
  obtain ⟨T1, X1, e1, st1⟩ := gF X0 hx hZ hown (ww hw 10 rfl) e0 F_size (g := (mkF m 6 #[vR a1, vI K_, vI 0, vI 5, vI c4_, vR c5_, vI c6_, vI c7_] [iR a1, iI 5])) rfl rfl (hb hby d7_6)
  obtain ⟨T2, X2, e2, st2⟩ := gF X1 hx hZ hown (ww hw 18 rfl) e1 F_parents (g := (mkF m 13 #[vR a1, vI K_, vI 0, vI 5, vI c4_, vR c5_, vI c6_, vI c7_] [iR a1])) rfl rfl (hb hby d7_13)
  obtain ⟨cl3, Ar3, q3, S3, M3, H3, G3⟩ := id V_bp
  have hin4 := inb_of (j := (5 : Int32)) S3 ⟨by decide, by decide⟩
  have hat5 : cl3.slots[((5 : Int32)).toNatClampNeg]? = some (.int (2 : Int32)) := Has.at H3 hin4 (by rw [own_bsget]; exact congrArg Value.int hpr5)
  obtain ⟨T6, X6, e6, st6⟩ := gF X2 hx hZ hown (ww hw 22 rfl) e2 F_children (g := (mkF m 33 #[vR a1, vI K_, vI 0, vI 5, vI 2, vR c5_, vI c6_, vI c7_] [iR a1])) rfl rfl (hb hby d7_33)
  obtain ⟨cl7, Ar7, q7, S7, M7, H7, G7⟩ := id V_bc
  have hin8 := inb_of (j := (2 : Int32)) S7 ⟨by decide, by decide⟩
  obtain ⟨T10, X10, e10, st10⟩ := gF X6 hx hZ hown (ww hw 24 rfl) e6 F_childCounts (g := (mkF m 50 #[vR a1, vI K_, vI 0, vI 5, vI 2, vR s2, vI 0, vI 0] [iR a1, iI 0])) rfl rfl (hb hby d7_50)
  obtain ⟨cl11, Ar11, q11, S11, M11, H11, G11⟩ := id V_bn
  have hin12 := inb_of (j := (2 : Int32)) S11 ⟨by decide, by decide⟩
  obtain ⟨cl14, Ar14, q14, S14, M14, H14, G14⟩ := id V_s2
  have hin15 := inb_of (j := (0 : Int32)) S14 ⟨by decide, by decide⟩
  obtain ⟨T17, X17, e17, st17⟩ := gF X10 hx hZ hown (ww hw 24 rfl) e10 F_childCounts (g := (mkF m 50 #[vR a1, vI K_, vI 0, vI 5, vI 2, vR s2, vI 0, vI 1] [iR a1, iI 1])) rfl rfl (hb hby d7_50)
  have hin18 := inb_of (j := (2 : Int32)) S11 ⟨by decide, by decide⟩
  have hin20 := inb_of (j := (1 : Int32)) S14 ⟨by decide, by decide⟩
  obtain ⟨T22, X22, e22, st22⟩ := gF X17 hx hZ hown (ww hw 24 rfl) e17 F_childCounts (g := (mkF m 50 #[vR a1, vI K_, vI 0, vI 5, vI 2, vR s2, vI 0, vI 2] [iR a1, iI 2])) rfl rfl (hb hby d7_50)
  have hin23 := inb_of (j := (2 : Int32)) S11 ⟨by decide, by decide⟩
  obtain ⟨T25, X25, e25, st25⟩ := gF X22 hx hZ hown (ww hw 24 rfl) e22 F_childCounts (g := (mkF m 88 #[vR a1, vI K_, vI 0, vI 5, vI 2, vR s2, vI 0, vI 2] [iR a1])) rfl rfl (hb hby d7_88)
  have hin26 := inb_of (j := (2 : Int32)) S11 ⟨by decide, by decide⟩
  obtain ⟨T27, h27, X27, e27, W27, st27⟩ := stI X25 hx hZ e25 Ar11 (j := (2 : Int32)) hin26 (g := (mkF m 95 #[vR a1, vI K_, vI 0, vI 5, vI 2, vR s2, vI 0, vI 2] [iI 0, iI 2, iR bn])) rfl rfl (hb hby d7_95)
  have V27 : Arv Z h27 bn kn .int (16 : Int32) (own_bs [2, n1_, 0, 0, 0, 0, 0, 0, 0, 0, 0, 0, 0, 0, 0, 0]) (.int (0 : Int32)) := Arv.set Ar11 q11 S11 M11 H11 G11 rfl W27 2 rfl (Nat.le_of_ble_eq_true rfl)
  have K27 : Keep h0 h27 [a1, bc, bn, s0, s1, s2] := Kt0.wr W27 (Or.inl (List.mem_of_getElem? (i := 2) rfl))
  have N27 := Fr.snoc X27 N0 g_bn
  have fk28 := (F_children.other W27 (Or.inl ne_a1_bn))
  obtain ⟨T29, X29, e29, st29⟩ := gF X27 hx hZ hown (ww hw 22 rfl) e27 fk28 (g := (mkF m 100 #[vR a1, vI K_, vI 2, vI 5, vI 2, vR s2, vI 0, vI 2] [iR a1])) rfl rfl (hb hby d7_100)
  have fk30 := (V_bc.other W27 ne_bc_bn)
  obtain ⟨cl31, Ar31, q31, S31, M31, H31, G31⟩ := id fk30
  have hin32 := inb_of (j := (5 : Int32)) S31 ⟨by decide, by decide⟩
  obtain ⟨T33, h33, X33, e33, W33, st33⟩ := stR X29 hx hZ e29 Ar31 (j := (5 : Int32)) (v := .null) hin32 rfl (Or.inl rfl) (g := (mkF m 105 #[vR a1, vI K_, vI 2, vI 5, vI 2, vR s2, vI 0, vI 2] [.null, iI 5, iR bc])) rfl rfl (hb hby d7_105)
  have V33 : Arv Z h33 bc kc (.array .int) (16 : Int32) [(.ref s0), (.ref s1), (.ref s2), .null, .null, .null, .null, .null, .null, .null, .null, .null, .null, .null, .null, .null] .null := Arv.set Ar31 q31 S31 M31 H31 G31 rfl W33 5 rfl (Nat.le_of_ble_eq_true rfl)
  have K33 : Keep h0 h33 [a1, bc, bn, s0, s1, s2] := K27.wr W33 (Or.inl (List.mem_of_getElem? (i := 1) rfl))
  have N33 := Fr.snoc X33 N27 g_bc
  have fk34 := ((F_childCounts.other W27 (Or.inl ne_a1_bn)).other W33 (Or.inl ne_a1_bc))
  obtain ⟨T35, X35, e35, st35⟩ := gF X33 hx hZ hown (ww hw 24 rfl) e33 fk34 (g := (mkF m 107 #[vR a1, vI K_, vI 2, vI 5, vI 2, vR s2, vI 0, vI 2] [iR a1])) rfl rfl (hb hby d7_107)
  have fk36 := (V27.other W33 (Ne.symm ne_bc_bn))
  obtain ⟨cl37, Ar37, q37, S37, M37, H37, G37⟩ := id fk36
  have hin38 := inb_of (j := (5 : Int32)) S37 ⟨by decide, by decide⟩
  obtain ⟨T39, h39, X39, e39, W39, st39⟩ := stI X35 hx hZ e35 Ar37 (j := (5 : Int32)) hin38 (g := (mkF m 112 #[vR a1, vI K_, vI 2, vI 5, vI 2, vR s2, vI 0, vI 2] [iI 0, iI 5, iR bn])) rfl rfl (hb hby d7_112)
  have V39 : Arv Z h39 bn kn .int (16 : Int32) (own_bs [2, n1_, 0, 0, 0, 0, 0, 0, 0, 0, 0, 0, 0, 0, 0, 0]) (.int (0 : Int32)) := Arv.set Ar37 q37 S37 M37 H37 G37 rfl W39 5 rfl (Nat.le_of_ble_eq_true rfl)
  have K39 : Keep h0 h39 [a1, bc, bn, s0, s1, s2] := K33.wr W39 (Or.inl (List.mem_of_getElem? (i := 2) rfl))
  have N39 := Fr.snoc X39 N33 g_bn
  have fk40 := (((F_size.other W27 (Or.inl ne_a1_bn)).other W33 (Or.inl ne_a1_bc)).other W39 (Or.inl ne_a1_bn))
  obtain ⟨T41, X41, e41, st41⟩ := gF X39 hx hZ hown (ww hw 10 rfl) e39 fk40 (g := (mkF m 6 #[vR a1, vI K_, vI 2, vI 6, vI 2, vR s2, vI 0, vI 2] [iR a1, iI 6])) rfl rfl (hb hby d7_6)
  have fk42 := (((F_parents.other W27 (Or.inl ne_a1_bn)).other W33 (Or.inl ne_a1_bc)).other W39 (Or.inl ne_a1_bn))
  obtain ⟨T43, X43, e43, st43⟩ := gF X41 hx hZ hown (ww hw 18 rfl) e41 fk42 (g := (mkF m 13 #[vR a1, vI K_, vI 2, vI 6, vI 2, vR s2, vI 0, vI 2] [iR a1])) rfl rfl (hb hby d7_13)
  have fk44 := (((V_bp.other W27 ne_bp_bn).other W33 ne_bp_bc).other W39 ne_bp_bn)
  obtain ⟨cl45, Ar45, q45, S45, M45, H45, G45⟩ := id fk44
  have hin46 := inb_of (j := (6 : Int32)) S45 ⟨by decide, by decide⟩
  have hat47 : cl45.slots[((6 : Int32)).toNatClampNeg]? = some (.int (2 : Int32)) := Has.at H45 hin46 (by rw [own_bsget]; exact congrArg Value.int hpr6)
  have fk48 := ((fk28.other W33 (Or.inl ne_a1_bc)).other W39 (Or.inl ne_a1_bn))
  obtain ⟨T49, X49, e49, st49⟩ := gF X43 hx hZ hown (ww hw 22 rfl) e43 fk48 (g := (mkF m 100 #[vR a1, vI K_, vI 2, vI 6, vI 2, vR s2, vI 0, vI 2] [iR a1])) rfl rfl (hb hby d7_100)
  have fk50 := (V33.other W39 ne_bc_bn)
  obtain ⟨cl51, Ar51, q51, S51, M51, H51, G51⟩ := id fk50
  have hin52 := inb_of (j := (6 : Int32)) S51 ⟨by decide, by decide⟩
  obtain ⟨T53, h53, X53, e53, W53, st53⟩ := stR X49 hx hZ e49 Ar51 (j := (6 : Int32)) (v := .null) hin52 rfl (Or.inl rfl) (g := (mkF m 105 #[vR a1, vI K_, vI 2, vI 6, vI 2, vR s2, vI 0, vI 2] [.null, iI 6, iR bc])) rfl rfl (hb hby d7_105)
  have V53 : Arv Z h53 bc kc (.array .int) (16 : Int32) [(.ref s0), (.ref s1), (.ref s2), .null, .null, .null, .null, .null, .null, .null, .null, .null, .null, .null, .null, .null] .null := Arv.set Ar51 q51 S51 M51 H51 G51 rfl W53 6 rfl (Nat.le_of_ble_eq_true rfl)
  have K53 : Keep h0 h53 [a1, bc, bn, s0, s1, s2] := K39.wr W53 (Or.inl (List.mem_of_getElem? (i := 1) rfl))
  have N53 := Fr.snoc X53 N39 g_bc
  have fk54 := ((fk34.other W39 (Or.inl ne_a1_bn)).other W53 (Or.inl ne_a1_bc))
  obtain ⟨T55, X55, e55, st55⟩ := gF X53 hx hZ hown (ww hw 24 rfl) e53 fk54 (g := (mkF m 107 #[vR a1, vI K_, vI 2, vI 6, vI 2, vR s2, vI 0, vI 2] [iR a1])) rfl rfl (hb hby d7_107)
  have fk56 := (V39.other W53 (Ne.symm ne_bc_bn))
  obtain ⟨cl57, Ar57, q57, S57, M57, H57, G57⟩ := id fk56
  have hin58 := inb_of (j := (6 : Int32)) S57 ⟨by decide, by decide⟩
  obtain ⟨T59, h59, X59, e59, W59, st59⟩ := stI X55 hx hZ e55 Ar57 (j := (6 : Int32)) hin58 (g := (mkF m 112 #[vR a1, vI K_, vI 2, vI 6, vI 2, vR s2, vI 0, vI 2] [iI 0, iI 6, iR bn])) rfl rfl (hb hby d7_112)
  have V59 : Arv Z h59 bn kn .int (16 : Int32) (own_bs [2, n1_, 0, 0, 0, 0, 0, 0, 0, 0, 0, 0, 0, 0, 0, 0]) (.int (0 : Int32)) := Arv.set Ar57 q57 S57 M57 H57 G57 rfl W59 6 rfl (Nat.le_of_ble_eq_true rfl)
  have K59 : Keep h0 h59 [a1, bc, bn, s0, s1, s2] := K53.wr W59 (Or.inl (List.mem_of_getElem? (i := 2) rfl))
  have N59 := Fr.snoc X59 N53 g_bn
  have fk60 := ((fk40.other W53 (Or.inl ne_a1_bc)).other W59 (Or.inl ne_a1_bn))
  obtain ⟨T61, X61, e61, st61⟩ := gF X59 hx hZ hown (ww hw 10 rfl) e59 fk60 (g := (mkF m 6 #[vR a1, vI K_, vI 2, vI 7, vI 2, vR s2, vI 0, vI 2] [iR a1, iI 7])) rfl rfl (hb hby d7_6)
  have fk62 := (((((E_a1.wr W27).wr W33).wr W39).wr W53).wr W59)
  obtain ⟨T63, h63, X63, e63, W63, st63⟩ := putF X61 hx hZ hown (host := "") (Or.inl (ww hw 10 rfl)) Via.refl e61 fk60 fk62 (Or.inl (ww hw 11 rfl)) (ww hw 2 rfl) (ty := .int) (by decide) rfl rfl (g := (mkF m 121 #[vR a1, vI K_, vI 2, vI 7, vI 2, vR s2, vI 0, vI 2] [iI K_, iR a1])) rfl rfl (hb hby d7_121)
  have Fw63 := fk60.same W63
  have K63 : Keep h0 h63 [a1, bc, bn, s0, s1, s2] := K59.wr W63 (Or.inl (List.mem_of_getElem? (i := 0) rfl))
  have N63 := Fr.snoc X63 N59 g_a1
  obtain ⟨fs, hr, hrun, hended, hW, hsame⟩ := X63.leave (v := none) (fun _ => rfl)
  have fk64 := (fk62.wr W63)
  have fk65 := ((((((F_items.other W27 (Or.inl ne_a1_bn)).other W33 (Or.inl ne_a1_bc)).other W39 (Or.inl ne_a1_bn)).other W53 (Or.inl ne_a1_bc)).other W59 (Or.inl ne_a1_bn)).other W63 (Or.inr (slot_ne (Or.inl (ww hw 14 rfl)) (Or.inl (ww hw 11 rfl)) (by decide) (t := (.array .int)) (t' := .int) (by decide) (by decide))))
  have fk66 := ((((((V_bi.other W27 ne_bi_bn).other W33 ne_bi_bc).other W39 ne_bi_bn).other W53 ne_bi_bc).other W59 ne_bi_bn).other W63 (Ne.symm ne_a1_bi))
  have fk67 := ((((((F_sameEvents.other W27 (Or.inl ne_a1_bn)).other W33 (Or.inl ne_a1_bc)).other W39 (Or.inl ne_a1_bn)).other W53 (Or.inl ne_a1_bc)).other W59 (Or.inl ne_a1_bn)).other W63 (Or.inr (slot_ne (Or.inl (ww hw 17 rfl)) (Or.inl (ww hw 11 rfl)) (by decide) (t := (.array .boolean)) (t' := .int) (by decide) (by decide))))
  have fk68 := ((((((V_bf.other W27 ne_bf_bn).other W33 ne_bf_bc).other W39 ne_bf_bn).other W53 ne_bf_bc).other W59 ne_bf_bn).other W63 (Ne.symm ne_a1_bf))
  have fk69 := (((fk42.other W53 (Or.inl ne_a1_bc)).other W59 (Or.inl ne_a1_bn)).other W63 (Or.inr (slot_ne (Or.inl (ww hw 19 rfl)) (Or.inl (ww hw 11 rfl)) (by decide) (t := (.array .int)) (t' := .int) (by decide) (by decide))))
  have fk70 := (((fk44.other W53 ne_bp_bc).other W59 ne_bp_bn).other W63 (Ne.symm ne_a1_bp))
  have fk71 := (((fk48.other W53 (Or.inl ne_a1_bc)).other W59 (Or.inl ne_a1_bn)).other W63 (Or.inr (slot_ne (Or.inl (ww hw 23 rfl)) (Or.inl (ww hw 11 rfl)) (by decide) (t := (.array (.array .int))) (t' := .int) (by decide) (by decide))))
  have fk72 := ((V53.other W59 ne_bc_bn).other W63 (Ne.symm ne_a1_bc))
  have fk73 := ((fk54.other W59 (Or.inl ne_a1_bn)).other W63 (Or.inr (slot_ne (Or.inl (ww hw 25 rfl)) (Or.inl (ww hw 11 rfl)) (by decide) (t := (.array .int)) (t' := .int) (by decide) (by decide))))
  have fk74 := (V59.other W63 (Ne.symm ne_a1_bn))
  have fk75 := ((((((V_s0.other W27 (Ne.symm ne_bn_s0)).other W33 (Ne.symm ne_bc_s0)).other W39 (Ne.symm ne_bn_s0)).other W53 (Ne.symm ne_bc_s0)).other W59 (Ne.symm ne_bn_s0)).other W63 (Ne.symm ne_a1_s0))
  have fk76 := ((((((E_s0.wr W27).wr W33).wr W39).wr W53).wr W59).wr W63)
  have fk77 := ((((((V_s1.other W27 (Ne.symm ne_bn_s1)).other W33 (Ne.symm ne_bc_s1)).other W39 (Ne.symm ne_bn_s1)).other W53 (Ne.symm ne_bc_s1)).other W59 (Ne.symm ne_bn_s1)).other W63 (Ne.symm ne_a1_s1))
  have fk78 := ((((((E_s1.wr W27).wr W33).wr W39).wr W53).wr W59).wr W63)
  have fk79 := ((((((V_s2.other W27 (Ne.symm ne_bn_s2)).other W33 (Ne.symm ne_bc_s2)).other W39 (Ne.symm ne_bn_s2)).other W53 (Ne.symm ne_bc_s2)).other W59 (Ne.symm ne_bn_s2)).other W63 (Ne.symm ne_a1_s2))
  have fk80 := ((((((E_s2.wr W27).wr W33).wr W39).wr W53).wr W59).wr W63)
  refine ⟨_, _, ?_, hrun, hended, _, _, rfl, ?_, ⟨_, rfl⟩, hW, hsame.mono (by decide) (by decide)⟩
  · refine XS.iloadN X0.here hx rfl (hb hby d7_4) rfl ?_
    refine XS.aloadN X0.here hx rfl (hb hby d7_5) rfl rfl ?_
    refine st1 _ ?_
    refine XS.icmpNo X1.here hx rfl (hb hby d7_9) rfl (tlt (by decide : (5 : Int32) < (7 : Int32))).2.1 ?_
    refine XS.aloadN X1.here hx rfl (hb hby d7_12) rfl rfl ?_
    refine st2 _ ?_
    refine XS.iloadN X2.here hx rfl (hb hby d7_16) rfl ?_
    refine X2.iaload hx (j := (5 : Int32)) (v := (.int (2 : Int32))) (by rw [e2]; exact Ar3.1) (State.isArrayOf_alike hZ.alike Ar3.2.1) Ar3.2.2 hin4 hat5 (g := (mkF m 17 #[vR a1, vI K_, vI 0, vI 5, vI c4_, vR c5_, vI c6_, vI c7_] [iI 5, iR bp])) rfl rfl (hb hby d7_17) _ ?_
    refine XS.istore X2.here hx rfl (hb hby d7_18) rfl (l' := #[vR a1, vI K_, vI 0, vI 5, vI 2, vR c5_, vI c6_, vI c7_]) rfl ?_
    refine XS.iload X2.here hx rfl (hb hby d7_20) rfl ?_
    refine XS.iloadN X2.here hx rfl (hb hby d7_22) rfl ?_
    refine XS.icmpNo X2.here hx rfl (hb hby d7_23) rfl (tlt h_k2).2.1 ?_
    refine XS.iload X2.here hx rfl (hb hby d7_26) rfl ?_
    refine XS.iloadN X2.here hx rfl (hb hby d7_28) rfl ?_
    refine XS.icmpNo X2.here hx rfl (hb hby d7_29) rfl (feq (by decide : ¬ ((2 : Int32) = (0 : Int32)))).1 ?_
    refine XS.aloadN X2.here hx rfl (hb hby d7_32) rfl rfl ?_
    show SA T2 m 33 #[vR a1, vI K_, vI 0, vI 5, vI 2, vR c5_, vI c6_, vI c7_] [iR a1]
    refine st6 _ ?_
    refine XS.iload X6.here hx rfl (hb hby d7_36) rfl ?_
    refine X6.aaload hx (j := (2 : Int32)) (v := (.ref s2)) (by rw [e6]; exact Ar7.1) (State.isArrayOf_alike hZ.alike Ar7.2.1) rfl Ar7.2.2 hin8 (Has.at H7 hin8 rfl) (g := (mkF m 38 #[vR a1, vI K_, vI 0, vI 5, vI 2, vR c5_, vI c6_, vI c7_] [iI 2, iR bc])) rfl rfl (hb hby d7_38) _ ?_
    refine XS.astore X6.here hx rfl (hb hby d7_39) rfl rfl (l' := #[vR a1, vI K_, vI 0, vI 5, vI 2, vR s2, vI c6_, vI c7_]) rfl ?_
    refine XS.iconst X6.here hx rfl (hb hby d7_41) ?_
    refine XS.istore X6.here hx rfl (hb hby d7_42) rfl (l' := #[vR a1, vI K_, vI 0, vI 5, vI 2, vR s2, vI 0, vI c7_]) rfl ?_
    refine XS.iconst X6.here hx rfl (hb hby d7_44) ?_
    refine XS.istore X6.here hx rfl (hb hby d7_45) rfl (l' := #[vR a1, vI K_, vI 0, vI 5, vI 2, vR s2, vI 0, vI 0]) rfl ?_
    refine XS.iload X6.here hx rfl (hb hby d7_47) rfl ?_
    refine XS.aloadN X6.here hx rfl (hb hby d7_49) rfl rfl ?_
    refine st10 _ ?_
    refine XS.iload X10.here hx rfl (hb hby d7_53) rfl ?_
    refine X10.iaload hx (j := (2 : Int32)) (v := (.int (2 : Int32))) (by rw [e10]; exact Ar11.1) (State.isArrayOf_alike hZ.alike Ar11.2.1) Ar11.2.2 hin12 (Has.at H11 hin12 rfl) (g := (mkF m 55 #[vR a1, vI K_, vI 0, vI 5, vI 2, vR s2, vI 0, vI 0] [iI 2, iR bn, iI 0])) rfl rfl (hb hby d7_55) _ ?_
    refine XS.icmpNo X10.here hx rfl (hb hby d7_56) rfl (tlt (by decide : (0 : Int32) < (2 : Int32))).2.1 ?_
    refine XS.aload X10.here hx rfl (hb hby d7_59) rfl rfl ?_
    refine XS.iload X10.here hx rfl (hb hby d7_61) rfl ?_
    refine X10.iaload hx (j := (0 : Int32)) (v := (.int z0_)) (by rw [e10]; exact Ar14.1) (State.isArrayOf_alike hZ.alike Ar14.2.1) Ar14.2.2 hin15 (Has.at H14 hin15 rfl) (g := (mkF m 63 #[vR a1, vI K_, vI 0, vI 5, vI 2, vR s2, vI 0, vI 0] [iI 0, iR s2])) rfl rfl (hb hby d7_63) _ ?_
    refine XS.iloadN X10.here hx rfl (hb hby d7_64) rfl ?_
    refine XS.icmpYes X10.here hx rfl (pc0 := 65) (pc' := 81) rfl (hb hby d7_65) rfl (flt h_z0_).2.1 (by decide) (by decide) ?_
    refine XS.iinc X10.here hx rfl (hb hby d7_81) rfl (l' := #[vR a1, vI K_, vI 0, vI 5, vI 2, vR s2, vI 0, vI ((0 : Int32) + (1 : Int32))]) rfl ?_
    rw [(by decide : ((0 : Int32) + (1 : Int32)) = (1 : Int32))]
    refine XS.goto X10.here hx rfl (pc0 := 84) (pc' := 47) rfl (hb hby d7_84) (by decide) (by decide) ?_
    refine XS.iload X10.here hx rfl (hb hby d7_47) rfl ?_
    refine XS.aloadN X10.here hx rfl (hb hby d7_49) rfl rfl ?_
    refine st17 _ ?_
    refine XS.iload X17.here hx rfl (hb hby d7_53) rfl ?_
    refine X17.iaload hx (j := (2 : Int32)) (v := (.int (2 : Int32))) (by rw [e17]; exact Ar11.1) (State.isArrayOf_alike hZ.alike Ar11.2.1) Ar11.2.2 hin18 (Has.at H11 hin18 rfl) (g := (mkF m 55 #[vR a1, vI K_, vI 0, vI 5, vI 2, vR s2, vI 0, vI 1] [iI 2, iR bn, iI 1])) rfl rfl (hb hby d7_55) _ ?_
    refine XS.icmpNo X17.here hx rfl (hb hby d7_56) rfl (tlt (by decide : (1 : Int32) < (2 : Int32))).2.1 ?_
    refine XS.aload X17.here hx rfl (hb hby d7_59) rfl rfl ?_
    refine XS.iload X17.here hx rfl (hb hby d7_61) rfl ?_
    refine X17.iaload hx (j := (1 : Int32)) (v := (.int z1_)) (by rw [e17]; exact Ar14.1) (State.isArrayOf_alike hZ.alike Ar14.2.1) Ar14.2.2 hin20 (Has.at H14 hin20 rfl) (g := (mkF m 63 #[vR a1, vI K_, vI 0, vI 5, vI 2, vR s2, vI 0, vI 1] [iI 1, iR s2])) rfl rfl (hb hby d7_63) _ ?_
    refine XS.iloadN X17.here hx rfl (hb hby d7_64) rfl ?_
    refine XS.icmpYes X17.here hx rfl (pc0 := 65) (pc' := 81) rfl (hb hby d7_65) rfl (flt h_z1_).2.1 (by decide) (by decide) ?_
    refine XS.iinc X17.here hx rfl (hb hby d7_81) rfl (l' := #[vR a1, vI K_, vI 0, vI 5, vI 2, vR s2, vI 0, vI ((1 : Int32) + (1 : Int32))]) rfl ?_
    rw [(by decide : ((1 : Int32) + (1 : Int32)) = (2 : Int32))]
    refine XS.goto X17.here hx rfl (pc0 := 84) (pc' := 47) rfl (hb hby d7_84) (by decide) (by decide) ?_
    refine XS.iload X17.here hx rfl (hb hby d7_47) rfl ?_
    refine XS.aloadN X17.here hx rfl (hb hby d7_49) rfl rfl ?_
    refine st22 _ ?_
    refine XS.iload X22.here hx rfl (hb hby d7_53) rfl ?_
    refine X22.iaload hx (j := (2 : Int32)) (v := (.int (2 : Int32))) (by rw [e22]; exact Ar11.1) (State.isArrayOf_alike hZ.alike Ar11.2.1) Ar11.2.2 hin23 (Has.at H11 hin23 rfl) (g := (mkF m 55 #[vR a1, vI K_, vI 0, vI 5, vI 2, vR s2, vI 0, vI 2] [iI 2, iR bn, iI 2])) rfl rfl (hb hby d7_55) _ ?_
    refine XS.icmpYes X22.here hx rfl (pc0 := 56) (pc' := 87) rfl (hb hby d7_56) rfl (flt (by decide : ¬ ((2 : Int32) < (2 : Int32)))).2.1 (by decide) (by decide) ?_
    refine XS.aloadN X22.here hx rfl (hb hby d7_87) rfl rfl ?_
    refine st25 _ ?_
    refine XS.iload X25.here hx rfl (hb hby d7_91) rfl ?_
    refine XS.iload X25.here hx rfl (hb hby d7_93) rfl ?_
    refine st27 _ ?_
    refine XS.iload X27.here hx rfl (hb hby d7_96) rfl ?_
    refine XS.istoreN X27.here hx rfl (hb hby d7_98) rfl (l' := #[vR a1, vI K_, vI 2, vI 5, vI 2, vR s2, vI 0, vI 2]) rfl ?_
    refine XS.aloadN X27.here hx rfl (hb hby d7_99) rfl rfl ?_
    refine st29 _ ?_
    refine XS.iloadN X29.here hx rfl (hb hby d7_103) rfl ?_
    refine XS.aconstNull X29.here hx rfl (hb hby d7_104) ?_
    refine st33 _ ?_
    refine XS.aloadN X33.here hx rfl (hb hby d7_106) rfl rfl ?_
    refine st35 _ ?_
    refine XS.iloadN X35.here hx rfl (hb hby d7_110) rfl ?_
    refine XS.iconst X35.here hx rfl (hb hby d7_111) ?_
    refine st39 _ ?_
    refine XS.iinc X39.here hx rfl (hb hby d7_113) rfl (l' := #[vR a1, vI K_, vI 2, vI ((5 : Int32) + (1 : Int32)), vI 2, vR s2, vI 0, vI 2]) rfl ?_
    rw [(by decide : ((5 : Int32) + (1 : Int32)) = (6 : Int32))]
    refine XS.goto X39.here hx rfl (pc0 := 116) (pc' := 4) rfl (hb hby d7_116) (by decide) (by decide) ?_
    refine XS.iloadN X39.here hx rfl (hb hby d7_4) rfl ?_
    refine XS.aloadN X39.here hx rfl (hb hby d7_5) rfl rfl ?_
    refine st41 _ ?_
    refine XS.icmpNo X41.here hx rfl (hb hby d7_9) rfl (tlt (by decide : (6 : Int32) < (7 : Int32))).2.1 ?_
    refine XS.aloadN X41.here hx rfl (hb hby d7_12) rfl rfl ?_
    refine st43 _ ?_
    refine XS.iloadN X43.here hx rfl (hb hby d7_16) rfl ?_
    refine X43.iaload hx (j := (6 : Int32)) (v := (.int (2 : Int32))) (by rw [e43]; exact Ar45.1) (State.isArrayOf_alike hZ.alike Ar45.2.1) Ar45.2.2 hin46 hat47 (g := (mkF m 17 #[vR a1, vI K_, vI 2, vI 6, vI 2, vR s2, vI 0, vI 2] [iI 6, iR bp])) rfl rfl (hb hby d7_17) _ ?_
    refine XS.istore X43.here hx rfl (hb hby d7_18) rfl (l' := #[vR a1, vI K_, vI 2, vI 6, vI 2, vR s2, vI 0, vI 2]) rfl ?_
    refine XS.iload X43.here hx rfl (hb hby d7_20) rfl ?_
    refine XS.iloadN X43.here hx rfl (hb hby d7_22) rfl ?_
    refine XS.icmpNo X43.here hx rfl (hb hby d7_23) rfl (tlt h_k2).2.1 ?_
    refine XS.iload X43.here hx rfl (hb hby d7_26) rfl ?_
    refine XS.iloadN X43.here hx rfl (hb hby d7_28) rfl ?_
    refine XS.icmpYes X43.here hx rfl (pc0 := 29) (pc' := 99) rfl (hb hby d7_29) rfl (teq (by decide : (2 : Int32) = (2 : Int32))).1 (by decide) (by decide) ?_
    refine XS.aloadN X43.here hx rfl (hb hby d7_99) rfl rfl ?_
    show SA T43 m 100 #[vR a1, vI K_, vI 2, vI 6, vI 2, vR s2, vI 0, vI 2] [iR a1]
    refine st49 _ ?_
    refine XS.iloadN X49.here hx rfl (hb hby d7_103) rfl ?_
    refine XS.aconstNull X49.here hx rfl (hb hby d7_104) ?_
    refine st53 _ ?_
    refine XS.aloadN X53.here hx rfl (hb hby d7_106) rfl rfl ?_
    refine st55 _ ?_
    refine XS.iloadN X55.here hx rfl (hb hby d7_110) rfl ?_
    refine XS.iconst X55.here hx rfl (hb hby d7_111) ?_
    refine st59 _ ?_
    refine XS.iinc X59.here hx rfl (hb hby d7_113) rfl (l' := #[vR a1, vI K_, vI 2, vI ((6 : Int32) + (1 : Int32)), vI 2, vR s2, vI 0, vI 2]) rfl ?_
    rw [(by decide : ((6 : Int32) + (1 : Int32)) = (7 : Int32))]
    refine XS.goto X59.here hx rfl (pc0 := 116) (pc' := 4) rfl (hb hby d7_116) (by decide) (by decide) ?_
    refine XS.iloadN X59.here hx rfl (hb hby d7_4) rfl ?_
    refine XS.aloadN X59.here hx rfl (hb hby d7_5) rfl rfl ?_
    refine st61 _ ?_
    refine XS.icmpYes X61.here hx rfl (pc0 := 9) (pc' := 119) rfl (hb hby d7_9) rfl (flt (by decide : ¬ ((7 : Int32) < (7 : Int32)))).2.1 (by decide) (by decide) ?_
    refine XS.aloadN X61.here hx rfl (hb hby d7_119) rfl rfl ?_
    refine XS.iloadN X61.here hx rfl (hb hby d7_120) rfl ?_
    refine st63 _ ?_
    show Steps _ _ _ (T63.setTop (mkF m 124 #[vR a1, vI K_, vI 2, vI 7, vI 2, vR s2, vI 0, vI 2] [])) _
    exact X63.returnOut hx hret (hb hby d7_124) hr
  · show own_QT34 Z a1 bi bf bp bc bn ki kf kp kc kn IL FL PL s0 s1 s2 q0 q1 q2 x0_ x1_ x2_ x3_ y1_ y2_ y3_ z0_ z1_ z2_ z3_ h0 n0 K_ n1_ _ T63.heap _
    rw [e63]
    exact ⟨w0_, w1_, w2_, w3_, z0_, z1_, z2_, z3_, rfl, N63, K63, fk64, Fw63, fk65, fk66, fk67, fk68, fk69, fk70, fk71, fk72, fk73, fk74, fk75, fk76, fk77, fk78, fk79, fk80, hrel⟩
theorem ef_7_3 (m : MethodId) (x0 : Addr) : entryFrame m #[(.ref x0), (.int (3 : Int32))] 8 = mkF m 0 #[.val (.ref x0), .val (.int (3 : Int32)), .unset, .unset, .unset, .unset, .unset, .unset] [] := by first | (simp [entryFrame, mkF, argsToLocals, Value.category]; done) | rfl
def Q7_3 (Z : State) (a1 : Addr) (bi bf bp bc bn : Addr) (ki kf kp kc kn : ClassId) (IL FL PL : List Int32) (s0 s1 s2 : Addr) (q0 q1 q2 : ClassId) (x0_ x1_ x2_ x3_ y1_ y2_ y3_ z0_ z1_ z2_ z3_ : Int32) (h0 : Heap) (n0 : Nat) (v : Option Value) (h : Heap) (L : List Loc) : Prop := own_QT34 Z a1 bi bf bp bc bn ki kf kp kc kn IL FL PL s0 s1 s2 q0 q1 q2 x0_ x1_ x2_ x3_ y1_ y2_ y3_ z0_ z1_ z2_ z3_ h0 n0 (3 : Int32) (0 : Int32) v h L
theorem rm7_3 (l : Launch) (Z : State) (a0 : Array Value) (hw : ∀ d ∈ tables_1, d.before a0 Z = true) (ws : List Jvm.Cond) (a1 : Addr) (bi bf bp bc bn : Addr) (ki kf kp kc kn : ClassId) (IL FL PL : List Int32) (s0 s1 s2 : Addr) (q0 q1 q2 : ClassId) (x0_ x1_ x2_ x3_ y1_ y2_ y3_ z0_ z1_ z2_ z3_ : Int32) (h0 : Heap) (n0 : Nat) (Z0 : n0 ≤ h0.size) (E_a1 : Exa Z h0 a1 "com/example/tidemine/tidemine/PatternTrie") (F_size : Fld Z h0 a1 "com/example/tidemine/tidemine/PatternTrie" "size" "I" (.int (7 : Int32))) (F_items : Fld Z h0 a1 "com/example/tidemine/tidemine/PatternTrie" "items" "[I" (.ref bi)) (V_bi : Arv Z h0 bi ki .int (16 : Int32) (own_bs IL) (.int (0 : Int32))) (F_sameEvents : Fld Z h0 a1 "com/example/tidemine/tidemine/PatternTrie" "sameEvents" "[Z" (.ref bf)) (V_bf : Arv Z h0 bf kf .boolean (16 : Int32) (own_bs FL) (.int (0 : Int32))) (F_parents : Fld Z h0 a1 "com/example/tidemine/tidemine/PatternTrie" "parents" "[I" (.ref bp)) (V_bp : Arv Z h0 bp kp .int (16 : Int32) (own_bs PL) (.int (0 : Int32))) (F_children : Fld Z h0 a1 "com/example/tidemine/tidemine/PatternTrie" "children" "[[I" (.ref bc)) (V_bc : Arv Z h0 bc kc (.array .int) (16 : Int32) [(.ref s0), (.ref s1), (.ref s2), .null, .null, .null, .null, .null, .null, .null, .null, .null, .null, .null, .null, .null] .null) (F_childCounts : Fld Z h0 a1 "com/example/tidemine/tidemine/PatternTrie" "childCounts" "[I" (.ref bn)) (V_bn : Arv Z h0 bn kn .int (16 : Int32) (own_bs [3, 1, 2, 0, 0, 0, 0, 0, 0, 0, 0, 0, 0, 0, 0, 0]) (.int (0 : Int32))) (V_s0 : Arv Z h0 s0 q0 .int (4 : Int32) (own_bs [x0_, x1_, x2_, x3_]) (.int (0 : Int32))) (E_s0 : Exa Z h0 s0 "[I") (V_s1 : Arv Z h0 s1 q1 .int (4 : Int32) (own_bs [3, y1_, y2_, y3_]) (.int (0 : Int32))) (E_s1 : Exa Z h0 s1 "[I") (V_s2 : Arv Z h0 s2 q2 .int (4 : Int32) (own_bs [z0_, z1_, z2_, z3_]) (.int (0 : Int32))) (E_s2 : Exa Z h0 s2 "[I") (hpr1 : PL.getD 1 0 = (0 : Int32)) (hpr2 : PL.getD 2 0 = (0 : Int32)) (hpr3 : PL.getD 3 0 = (1 : Int32)) (hpr4 : PL.getD 4 0 = (0 : Int32)) (hpr5 : PL.getD 5 0 = (2 : Int32)) (hpr6 : PL.getD 6 0 = (2 : Int32)) (g_a1 : n0 ≤ a1) (g_bi : n0 ≤ bi) (g_bf : n0 ≤ bf) (g_bp : n0 ≤ bp) (g_bc : n0 ≤ bc) (g_bn : n0 ≤ bn) (g_s0 : n0 ≤ s0) (g_s1 : n0 ≤ s1) (g_s2 : n0 ≤ s2) (ne_a1_bi : a1 ≠ bi) (ne_a1_bf : a1 ≠ bf) (ne_a1_bp : a1 ≠ bp) (ne_a1_bc : a1 ≠ bc) (ne_a1_bn : a1 ≠ bn) (ne_a1_s0 : a1 ≠ s0) (ne_a1_s1 : a1 ≠ s1) (ne_a1_s2 : a1 ≠ s2) (ne_bi_bf : bi ≠ bf) (ne_bi_bp : bi ≠ bp) (ne_bi_bc : bi ≠ bc) (ne_bi_bn : bi ≠ bn) (ne_bi_s0 : bi ≠ s0) (ne_bi_s1 : bi ≠ s1) (ne_bi_s2 : bi ≠ s2) (ne_bf_bp : bf ≠ bp) (ne_bf_bc : bf ≠ bc) (ne_bf_bn : bf ≠ bn) (ne_bf_s0 : bf ≠ s0) (ne_bf_s1 : bf ≠ s1) (ne_bf_s2 : bf ≠ s2) (ne_bp_bc : bp ≠ bc) (ne_bp_bn : bp ≠ bn) (ne_bp_s0 : bp ≠ s0) (ne_bp_s1 : bp ≠ s1) (ne_bp_s2 : bp ≠ s2) (ne_bc_bn : bc ≠ bn) (ne_bc_s0 : bc ≠ s0) (ne_bc_s1 : bc ≠ s1) (ne_bc_s2 : bc ≠ s2) (ne_bn_s0 : bn ≠ s0) (ne_bn_s1 : bn ≠ s1) (ne_bn_s2 : bn ≠ s2) (ne_s0_s1 : s0 ≠ s1) (ne_s0_s2 : s0 ≠ s2) (ne_s1_s2 : s1 ≠ s2) (h_z0_ : ¬ (z0_ < (3 : Int32))) (h_z1_ : ¬ (z1_ < (3 : Int32))) (hpat : (¬ x0_ < (3 : Int32) ∧ x1_ < (3 : Int32) ∧ x2_ < (3 : Int32)) ∨ (x0_ < (3 : Int32) ∧ ¬ x1_ < (3 : Int32) ∧ x2_ < (3 : Int32)) ∨ (x0_ < (3 : Int32) ∧ x1_ < (3 : Int32) ∧ ¬ x2_ < (3 : Int32))) :
    MetFree l mn_4 (head1 (Jvm.Cond.code mn_4 prog_23_method_4_code 8 none :: ws) ({ frames := 0, cells := 0, slots := 0, locals := 0 } : Room)) (fun a U => a = #[(.ref a1), (.int (3 : Int32))] ∧ Z.Warmed39 U.vm ∧ U.heap = h0) (fun _ _ _ _ _ => True) (fun _ U o U' => ∃ v L, o = .returned v ∧ Q7_3 Z a1 bi bf bp bc bn ki kf kp kc kn IL FL PL s0 s1 s2 q0 q1 q2 x0_ x1_ x2_ x3_ y1_ y2_ y3_ z0_ z1_ z2_ z3_ h0 n0 v U'.heap L ∧ FrameEnd U o U' L ({ frames := 0, cells := 0, slots := 0, locals := 0 } : Room).cells ({ frames := 0, cells := 0, slots := 0, locals := 0 } : Room).slots) := by
  refine MetFree.of_bodySF (plainFor_of_name pn_2) hisR ?_
  intro p e s m args below meth c s₁ Bd hml0 hP hK
  obtain ⟨rfl, hZ, hh⟩ := hP
  have hx := Bd.exec
  have hby := Bd.bytes
  have hml : c.maxLocals = 8 := hml0
  have hown : s.vm.findClass "com/example/tidemine/tidemine/PatternTrie" = some m.cls := findClass_of_methodNamed Bd.named
  have hnm := (name_of_methodNamed Bd.named Bd.method).1
  have X0 : Stand p l e ({ frames := 0, cells := 0, slots := 0, locals := 0 } : Room) s m #[(.ref a1), (.int (3 : Int32))] below meth c s₁ [] 0 0 := Stand.of_body Bd
  have e0 : s₁.heap = h0 := by rw [← hh, Bd.state]; rfl
  have N0 := Fr.nil n0
  have K0 := Keep.refl h0 [a1, bc, bn, s0, s1, s2]
  have pre0 : ∀ t, Steps p.tables e below (s₁.setTop (mkF m 0 #[.val (.ref a1), .val (.int (3 : Int32)), .unset, .unset, .unset, .unset, .unset, .unset] [])) t → Steps p.tables e below (s₁.setTop (entryFrame m #[(.ref a1), (.int (3 : Int32))] 8)) t := fun t k => castTop (ef_7_3 m a1) k
  obtain ⟨T1, X1, e1, st1⟩ := gF X0 hx hZ hown (ww hw 10 rfl) e0 F_size (g := (mkF m 6 #[vR a1, vI 3, vI (-1), vI 3, .unset, .unset, .unset, .unset] [iR a1, iI 3])) rfl rfl (hb hby d7_6)
  obtain ⟨T2, X2, e2, st2⟩ := gF X1 hx hZ hown (ww hw 18 rfl) e1 F_parents (g := (mkF m 13 #[vR a1, vI 3, vI (-1), vI 3, .unset, .unset, .unset, .unset] [iR a1])) rfl rfl (hb hby d7_13)
  obtain ⟨cl3, Ar3, q3, S3, M3, H3, G3⟩ := id V_bp
  have hin4 := inb_of (j := (3 : Int32)) S3 ⟨by decide, by decide⟩
  have hat5 : cl3.slots[((3 : Int32)).toNatClampNeg]? = some (.int (1 : Int32)) := Has.at H3 hin4 (by rw [own_bsget]; exact congrArg Value.int hpr3)
  obtain ⟨T6, X6, e6, st6⟩ := gF X2 hx hZ hown (ww hw 22 rfl) e2 F_children (g := (mkF m 33 #[vR a1, vI 3, vI (-1), vI 3, vI 1, .unset, .unset, .unset] [iR a1])) rfl rfl (hb hby d7_33)
  obtain ⟨cl7, Ar7, q7, S7, M7, H7, G7⟩ := id V_bc
  have hin8 := inb_of (j := (1 : Int32)) S7 ⟨by decide, by decide⟩
  obtain ⟨T10, X10, e10, st10⟩ := gF X6 hx hZ hown (ww hw 24 rfl) e6 F_childCounts (g := (mkF m 50 #[vR a1, vI 3, vI (-1), vI 3, vI 1, vR s1, vI 0, vI 0] [iR a1, iI 0])) rfl rfl (hb hby d7_50)
  obtain ⟨cl11, Ar11, q11, S11, M11, H11, G11⟩ := id V_bn
  have hin12 := inb_of (j := (1 : Int32)) S11 ⟨by decide, by decide⟩
  obtain ⟨cl14, Ar14, q14, S14, M14, H14, G14⟩ := id V_s1
  have hin15 := inb_of (j := (0 : Int32)) S14 ⟨by decide, by decide⟩
  obtain ⟨T17, X17, e17, st17⟩ := gF X10 hx hZ hown (ww hw 24 rfl) e10 F_childCounts (g := (mkF m 50 #[vR a1, vI 3, vI (-1), vI 3, vI 1, vR s1, vI 0, vI 1] [iR a1, iI 1])) rfl rfl (hb hby d7_50)
  have hin18 := inb_of (j := (1 : Int32)) S11 ⟨by decide, by decide⟩
  obtain ⟨T20, X20, e20, st20⟩ := gF X17 hx hZ hown (ww hw 24 rfl) e17 F_childCounts (g := (mkF m 88 #[vR a1, vI 3, vI (-1), vI 3, vI 1, vR s1, vI 0, vI 1] [iR a1])) rfl rfl (hb hby d7_88)
  have hin21 := inb_of (j := (1 : Int32)) S11 ⟨by decide, by decide⟩
  obtain ⟨T22, h22, X22, e22, W22, st22⟩ := stI X20 hx hZ e20 Ar11 (j := (1 : Int32)) hin21 (g := (mkF m 95 #[vR a1, vI 3, vI (-1), vI 3, vI 1, vR s1, vI 0, vI 1] [iI 0, iI 1, iR bn])) rfl rfl (hb hby d7_95)
  have V22 : Arv Z h22 bn kn .int (16 : Int32) (own_bs [3, 0, 2, 0, 0, 0, 0, 0, 0, 0, 0, 0, 0, 0, 0, 0]) (.int (0 : Int32)) := Arv.set Ar11 q11 S11 M11 H11 G11 rfl W22 1 rfl (Nat.le_of_ble_eq_true rfl)
  have K22 : Keep h0 h22 [a1, bc, bn, s0, s1, s2] := K0.wr W22 (Or.inl (List.mem_of_getElem? (i := 2) rfl))
  have N22 := Fr.snoc X22 N0 g_bn
  have fk23 := (F_children.other W22 (Or.inl ne_a1_bn))
  obtain ⟨T24, X24, e24, st24⟩ := gF X22 hx hZ hown (ww hw 22 rfl) e22 fk23 (g := (mkF m 100 #[vR a1, vI 3, vI 1, vI 3, vI 1, vR s1, vI 0, vI 1] [iR a1])) rfl rfl (hb hby d7_100)
  have fk25 := (V_bc.other W22 ne_bc_bn)
  obtain ⟨cl26, Ar26, q26, S26, M26, H26, G26⟩ := id fk25
  have hin27 := inb_of (j := (3 : Int32)) S26 ⟨by decide, by decide⟩
  obtain ⟨T28, h28, X28, e28, W28, st28⟩ := stR X24 hx hZ e24 Ar26 (j := (3 : Int32)) (v := .null) hin27 rfl (Or.inl rfl) (g := (mkF m 105 #[vR a1, vI 3, vI 1, vI 3, vI 1, vR s1, vI 0, vI 1] [.null, iI 3, iR bc])) rfl rfl (hb hby d7_105)
  have V28 : Arv Z h28 bc kc (.array .int) (16 : Int32) [(.ref s0), (.ref s1), (.ref s2), .null, .null, .null, .null, .null, .null, .null, .null, .null, .null, .null, .null, .null] .null := Arv.set Ar26 q26 S26 M26 H26 G26 rfl W28 3 rfl (Nat.le_of_ble_eq_true rfl)
  have K28 : Keep h0 h28 [a1, bc, bn, s0, s1, s2] := K22.wr W28 (Or.inl (List.mem_of_getElem? (i := 1) rfl))
  have N28 := Fr.snoc X28 N22 g_bc
  have fk29 := ((F_childCounts.other W22 (Or.inl ne_a1_bn)).other W28 (Or.inl ne_a1_bc))
  obtain ⟨T30, X30, e30, st30⟩ := gF X28 hx hZ hown (ww hw 24 rfl) e28 fk29 (g := (mkF m 107 #[vR a1, vI 3, vI 1, vI 3, vI 1, vR s1, vI 0, vI 1] [iR a1])) rfl rfl (hb hby d7_107)
  have fk31 := (V22.other W28 (Ne.symm ne_bc_bn))
  obtain ⟨cl32, Ar32, q32, S32, M32, H32, G32⟩ := id fk31
  have hin33 := inb_of (j := (3 : Int32)) S32 ⟨by decide, by decide⟩
  obtain ⟨T34, h34, X34, e34, W34, st34⟩ := stI X30 hx hZ e30 Ar32 (j := (3 : Int32)) hin33 (g := (mkF m 112 #[vR a1, vI 3, vI 1, vI 3, vI 1, vR s1, vI 0, vI 1] [iI 0, iI 3, iR bn])) rfl rfl (hb hby d7_112)
  have V34 : Arv Z h34 bn kn .int (16 : Int32) (own_bs [3, 0, 2, 0, 0, 0, 0, 0, 0, 0, 0, 0, 0, 0, 0, 0]) (.int (0 : Int32)) := Arv.set Ar32 q32 S32 M32 H32 G32 rfl W34 3 rfl (Nat.le_of_ble_eq_true rfl)
  have K34 : Keep h0 h34 [a1, bc, bn, s0, s1, s2] := K28.wr W34 (Or.inl (List.mem_of_getElem? (i := 2) rfl))
  have N34 := Fr.snoc X34 N28 g_bn
  have fk35 := (((F_size.other W22 (Or.inl ne_a1_bn)).other W28 (Or.inl ne_a1_bc)).other W34 (Or.inl ne_a1_bn))
  obtain ⟨T36, X36, e36, st36⟩ := gF X34 hx hZ hown (ww hw 10 rfl) e34 fk35 (g := (mkF m 6 #[vR a1, vI 3, vI 1, vI 4, vI 1, vR s1, vI 0, vI 1] [iR a1, iI 4])) rfl rfl (hb hby d7_6)
  have fk37 := (((F_parents.other W22 (Or.inl ne_a1_bn)).other W28 (Or.inl ne_a1_bc)).other W34 (Or.inl ne_a1_bn))
  obtain ⟨T38, X38, e38, st38⟩ := gF X36 hx hZ hown (ww hw 18 rfl) e36 fk37 (g := (mkF m 13 #[vR a1, vI 3, vI 1, vI 4, vI 1, vR s1, vI 0, vI 1] [iR a1])) rfl rfl (hb hby d7_13)
  have fk39 := (((V_bp.other W22 ne_bp_bn).other W28 ne_bp_bc).other W34 ne_bp_bn)
  obtain ⟨cl40, Ar40, q40, S40, M40, H40, G40⟩ := id fk39
  have hin41 := inb_of (j := (4 : Int32)) S40 ⟨by decide, by decide⟩
  have hat42 : cl40.slots[((4 : Int32)).toNatClampNeg]? = some (.int (0 : Int32)) := Has.at H40 hin41 (by rw [own_bsget]; exact congrArg Value.int hpr4)
  have fk43 := ((fk23.other W28 (Or.inl ne_a1_bc)).other W34 (Or.inl ne_a1_bn))
  obtain ⟨T44, X44, e44, st44⟩ := gF X38 hx hZ hown (ww hw 22 rfl) e38 fk43 (g := (mkF m 33 #[vR a1, vI 3, vI 1, vI 4, vI 0, vR s1, vI 0, vI 1] [iR a1])) rfl rfl (hb hby d7_33)
  have fk45 := (V28.other W34 ne_bc_bn)
  obtain ⟨cl46, Ar46, q46, S46, M46, H46, G46⟩ := id fk45
  have hin47 := inb_of (j := (0 : Int32)) S46 ⟨by decide, by decide⟩
  have fk49 := (fk29.other W34 (Or.inl ne_a1_bn))
  obtain ⟨T50, X50, e50, st50⟩ := gF X44 hx hZ hown (ww hw 24 rfl) e44 fk49 (g := (mkF m 50 #[vR a1, vI 3, vI 1, vI 4, vI 0, vR s0, vI 0, vI 0] [iR a1, iI 0])) rfl rfl (hb hby d7_50)
  obtain ⟨cl51, Ar51, q51, S51, M51, H51, G51⟩ := id V34
  have hin52 := inb_of (j := (0 : Int32)) S51 ⟨by decide, by decide⟩
  have fk54 := (((V_s0.other W22 (Ne.symm ne_bn_s0)).other W28 (Ne.symm ne_bc_s0)).other W34 (Ne.symm ne_bn_s0))
  obtain ⟨cl55, Ar55, q55, S55, M55, H55, G55⟩ := id fk54
  have hin56 := inb_of (j := (0 : Int32)) S55 ⟨by decide, by decide⟩
  have pre59 : ∀ t, Steps p.tables e below (T50.setTop (mkF m 65 #[vR a1, vI 3, vI 1, vI 4, vI 0, vR s0, vI 0, vI 0] [iI 3, iI x0_])) t → Steps p.tables e below (s₁.setTop (entryFrame m #[(.ref a1), (.int (3 : Int32))] 8)) t := by
    intro t kt
    refine pre0 t ?_
    refine XS.iconst X0.here hx rfl (hb hby d7_0) ?_
    refine XS.istoreN X0.here hx rfl (hb hby d7_1) rfl (l' := #[vR a1, vI 3, vI (-1), .unset, .unset, .unset, .unset, .unset]) rfl ?_
    refine XS.iloadN X0.here hx rfl (hb hby d7_2) rfl ?_
    refine XS.istoreN X0.here hx rfl (hb hby d7_3) rfl (l' := #[vR a1, vI 3, vI (-1), vI 3, .unset, .unset, .unset, .unset]) rfl ?_
    refine XS.iloadN X0.here hx rfl (hb hby d7_4) rfl ?_
    refine XS.aloadN X0.here hx rfl (hb hby d7_5) rfl rfl ?_
    show SA s₁ m 6 #[vR a1, vI 3, vI (-1), vI 3, .unset, .unset, .unset, .unset] [iR a1, iI 3]
    refine st1 _ ?_
    refine XS.icmpNo X1.here hx rfl (hb hby d7_9) rfl (tlt (by decide : (3 : Int32) < (7 : Int32))).2.1 ?_
    refine XS.aloadN X1.here hx rfl (hb hby d7_12) rfl rfl ?_
    refine st2 _ ?_
    refine XS.iloadN X2.here hx rfl (hb hby d7_16) rfl ?_
    refine X2.iaload hx (j := (3 : Int32)) (v := (.int (1 : Int32))) (by rw [e2]; exact Ar3.1) (State.isArrayOf_alike hZ.alike Ar3.2.1) Ar3.2.2 hin4 hat5 (g := (mkF m 17 #[vR a1, vI 3, vI (-1), vI 3, .unset, .unset, .unset, .unset] [iI 3, iR bp])) rfl rfl (hb hby d7_17) _ ?_
    refine XS.istore X2.here hx rfl (hb hby d7_18) rfl (l' := #[vR a1, vI 3, vI (-1), vI 3, vI 1, .unset, .unset, .unset]) rfl ?_
    refine XS.iload X2.here hx rfl (hb hby d7_20) rfl ?_
    refine XS.iloadN X2.here hx rfl (hb hby d7_22) rfl ?_
    refine XS.icmpNo X2.here hx rfl (hb hby d7_23) rfl (tlt (by decide : (1 : Int32) < (3 : Int32))).2.1 ?_
    refine XS.iload X2.here hx rfl (hb hby d7_26) rfl ?_
    refine XS.iloadN X2.here hx rfl (hb hby d7_28) rfl ?_
    refine XS.icmpNo X2.here hx rfl (hb hby d7_29) rfl (feq (by decide : ¬ ((1 : Int32) = (-1 : Int32)))).1 ?_
    refine XS.aloadN X2.here hx rfl (hb hby d7_32) rfl rfl ?_
    show SA T2 m 33 #[vR a1, vI 3, vI (-1), vI 3, vI 1, .unset, .unset, .unset] [iR a1]
    refine st6 _ ?_
    refine XS.iload X6.here hx rfl (hb hby d7_36) rfl ?_
    refine X6.aaload hx (j := (1 : Int32)) (v := (.ref s1)) (by rw [e6]; exact Ar7.1) (State.isArrayOf_alike hZ.alike Ar7.2.1) rfl Ar7.2.2 hin8 (Has.at H7 hin8 rfl) (g := (mkF m 38 #[vR a1, vI 3, vI (-1), vI 3, vI 1, .unset, .unset, .unset] [iI 1, iR bc])) rfl rfl (hb hby d7_38) _ ?_
    refine XS.astore X6.here hx rfl (hb hby d7_39) rfl rfl (l' := #[vR a1, vI 3, vI (-1), vI 3, vI 1, vR s1, .unset, .unset]) rfl ?_
    refine XS.iconst X6.here hx rfl (hb hby d7_41) ?_
    refine XS.istore X6.here hx rfl (hb hby d7_42) rfl (l' := #[vR a1, vI 3, vI (-1), vI 3, vI 1, vR s1, vI 0, .unset]) rfl ?_
    refine XS.iconst X6.here hx rfl (hb hby d7_44) ?_
    refine XS.istore X6.here hx rfl (hb hby d7_45) rfl (l' := #[vR a1, vI 3, vI (-1), vI 3, vI 1, vR s1, vI 0, vI 0]) rfl ?_
    refine XS.iload X6.here hx rfl (hb hby d7_47) rfl ?_
    refine XS.aloadN X6.here hx rfl (hb hby d7_49) rfl rfl ?_
    refine st10 _ ?_
    refine XS.iload X10.here hx rfl (hb hby d7_53) rfl ?_
    refine X10.iaload hx (j := (1 : Int32)) (v := (.int (1 : Int32))) (by rw [e10]; exact Ar11.1) (State.isArrayOf_alike hZ.alike Ar11.2.1) Ar11.2.2 hin12 (Has.at H11 hin12 rfl) (g := (mkF m 55 #[vR a1, vI 3, vI (-1), vI 3, vI 1, vR s1, vI 0, vI 0] [iI 1, iR bn, iI 0])) rfl rfl (hb hby d7_55) _ ?_
    refine XS.icmpNo X10.here hx rfl (hb hby d7_56) rfl (tlt (by decide : (0 : Int32) < (1 : Int32))).2.1 ?_
    refine XS.aload X10.here hx rfl (hb hby d7_59) rfl rfl ?_
    refine XS.iload X10.here hx rfl (hb hby d7_61) rfl ?_
    refine X10.iaload hx (j := (0 : Int32)) (v := (.int (3 : Int32))) (by rw [e10]; exact Ar14.1) (State.isArrayOf_alike hZ.alike Ar14.2.1) Ar14.2.2 hin15 (Has.at H14 hin15 rfl) (g := (mkF m 63 #[vR a1, vI 3, vI (-1), vI 3, vI 1, vR s1, vI 0, vI 0] [iI 0, iR s1])) rfl rfl (hb hby d7_63) _ ?_
    refine XS.iloadN X10.here hx rfl (hb hby d7_64) rfl ?_
    refine XS.icmpYes X10.here hx rfl (pc0 := 65) (pc' := 81) rfl (hb hby d7_65) rfl (flt (by decide : ¬ ((3 : Int32) < (3 : Int32)))).2.1 (by decide) (by decide) ?_
    refine XS.iinc X10.here hx rfl (hb hby d7_81) rfl (l' := #[vR a1, vI 3, vI (-1), vI 3, vI 1, vR s1, vI 0, vI ((0 : Int32) + (1 : Int32))]) rfl ?_
    rw [(by decide : ((0 : Int32) + (1 : Int32)) = (1 : Int32))]
    refine XS.goto X10.here hx rfl (pc0 := 84) (pc' := 47) rfl (hb hby d7_84) (by decide) (by decide) ?_
    refine XS.iload X10.here hx rfl (hb hby d7_47) rfl ?_
    refine XS.aloadN X10.here hx rfl (hb hby d7_49) rfl rfl ?_
    refine st17 _ ?_
    refine XS.iload X17.here hx rfl (hb hby d7_53) rfl ?_
    refine X17.iaload hx (j := (1 : Int32)) (v := (.int (1 : Int32))) (by rw [e17]; exact Ar11.1) (State.isArrayOf_alike hZ.alike Ar11.2.1) Ar11.2.2 hin18 (Has.at H11 hin18 rfl) (g := (mkF m 55 #[vR a1, vI 3, vI (-1), vI 3, vI 1, vR s1, vI 0, vI 1] [iI 1, iR bn, iI 1])) rfl rfl (hb hby d7_55) _ ?_
    refine XS.icmpYes X17.here hx rfl (pc0 := 56) (pc' := 87) rfl (hb hby d7_56) rfl (flt (by decide : ¬ ((1 : Int32) < (1 : Int32)))).2.1 (by decide) (by decide) ?_
    refine XS.aloadN X17.here hx rfl (hb hby d7_87) rfl rfl ?_
    refine st20 _ ?_
    refine XS.iload X20.here hx rfl (hb hby d7_91) rfl ?_
    refine XS.iload X20.here hx rfl (hb hby d7_93) rfl ?_
    refine st22 _ ?_
    refine XS.iload X22.here hx rfl (hb hby d7_96) rfl ?_
    refine XS.istoreN X22.here hx rfl (hb hby d7_98) rfl (l' := #[vR a1, vI 3, vI 1, vI 3, vI 1, vR s1, vI 0, vI 1]) rfl ?_
    refine XS.aloadN X22.here hx rfl (hb hby d7_99) rfl rfl ?_
    refine st24 _ ?_
    refine XS.iloadN X24.here hx rfl (hb hby d7_103) rfl ?_
    refine XS.aconstNull X24.here hx rfl (hb hby d7_104) ?_
    refine st28 _ ?_
    refine XS.aloadN X28.here hx rfl (hb hby d7_106) rfl rfl ?_
    refine st30 _ ?_
    refine XS.iloadN X30.here hx rfl (hb hby d7_110) rfl ?_
    refine XS.iconst X30.here hx rfl (hb hby d7_111) ?_
    refine st34 _ ?_
    refine XS.iinc X34.here hx rfl (hb hby d7_113) rfl (l' := #[vR a1, vI 3, vI 1, vI ((3 : Int32) + (1 : Int32)), vI 1, vR s1, vI 0, vI 1]) rfl ?_
    rw [(by decide : ((3 : Int32) + (1 : Int32)) = (4 : Int32))]
    refine XS.goto X34.here hx rfl (pc0 := 116) (pc' := 4) rfl (hb hby d7_116) (by decide) (by decide) ?_
    refine XS.iloadN X34.here hx rfl (hb hby d7_4) rfl ?_
    refine XS.aloadN X34.here hx rfl (hb hby d7_5) rfl rfl ?_
    refine st36 _ ?_
    refine XS.icmpNo X36.here hx rfl (hb hby d7_9) rfl (tlt (by decide : (4 : Int32) < (7 : Int32))).2.1 ?_
    refine XS.aloadN X36.here hx rfl (hb hby d7_12) rfl rfl ?_
    refine st38 _ ?_
    refine XS.iloadN X38.here hx rfl (hb hby d7_16) rfl ?_
    refine X38.iaload hx (j := (4 : Int32)) (v := (.int (0 : Int32))) (by rw [e38]; exact Ar40.1) (State.isArrayOf_alike hZ.alike Ar40.2.1) Ar40.2.2 hin41 hat42 (g := (mkF m 17 #[vR a1, vI 3, vI 1, vI 4, vI 1, vR s1, vI 0, vI 1] [iI 4, iR bp])) rfl rfl (hb hby d7_17) _ ?_
    refine XS.istore X38.here hx rfl (hb hby d7_18) rfl (l' := #[vR a1, vI 3, vI 1, vI 4, vI 0, vR s1, vI 0, vI 1]) rfl ?_
    refine XS.iload X38.here hx rfl (hb hby d7_20) rfl ?_
    refine XS.iloadN X38.here hx rfl (hb hby d7_22) rfl ?_
    refine XS.icmpNo X38.here hx rfl (hb hby d7_23) rfl (tlt (by decide : (0 : Int32) < (3 : Int32))).2.1 ?_
    refine XS.iload X38.here hx rfl (hb hby d7_26) rfl ?_
    refine XS.iloadN X38.here hx rfl (hb hby d7_28) rfl ?_
    refine XS.icmpNo X38.here hx rfl (hb hby d7_29) rfl (feq (by decide : ¬ ((0 : Int32) = (1 : Int32)))).1 ?_
    refine XS.aloadN X38.here hx rfl (hb hby d7_32) rfl rfl ?_
    show SA T38 m 33 #[vR a1, vI 3, vI 1, vI 4, vI 0, vR s1, vI 0, vI 1] [iR a1]
    refine st44 _ ?_
    refine XS.iload X44.here hx rfl (hb hby d7_36) rfl ?_
    refine X44.aaload hx (j := (0 : Int32)) (v := (.ref s0)) (by rw [e44]; exact Ar46.1) (State.isArrayOf_alike hZ.alike Ar46.2.1) rfl Ar46.2.2 hin47 (Has.at H46 hin47 rfl) (g := (mkF m 38 #[vR a1, vI 3, vI 1, vI 4, vI 0, vR s1, vI 0, vI 1] [iI 0, iR bc])) rfl rfl (hb hby d7_38) _ ?_
    refine XS.astore X44.here hx rfl (hb hby d7_39) rfl rfl (l' := #[vR a1, vI 3, vI 1, vI 4, vI 0, vR s0, vI 0, vI 1]) rfl ?_
    refine XS.iconst X44.here hx rfl (hb hby d7_41) ?_
    refine XS.istore X44.here hx rfl (hb hby d7_42) rfl (l' := #[vR a1, vI 3, vI 1, vI 4, vI 0, vR s0, vI 0, vI 1]) rfl ?_
    refine XS.iconst X44.here hx rfl (hb hby d7_44) ?_
    refine XS.istore X44.here hx rfl (hb hby d7_45) rfl (l' := #[vR a1, vI 3, vI 1, vI 4, vI 0, vR s0, vI 0, vI 0]) rfl ?_
    refine XS.iload X44.here hx rfl (hb hby d7_47) rfl ?_
    refine XS.aloadN X44.here hx rfl (hb hby d7_49) rfl rfl ?_
    refine st50 _ ?_
    refine XS.iload X50.here hx rfl (hb hby d7_53) rfl ?_
    refine X50.iaload hx (j := (0 : Int32)) (v := (.int (3 : Int32))) (by rw [e50]; exact Ar51.1) (State.isArrayOf_alike hZ.alike Ar51.2.1) Ar51.2.2 hin52 (Has.at H51 hin52 rfl) (g := (mkF m 55 #[vR a1, vI 3, vI 1, vI 4, vI 0, vR s0, vI 0, vI 0] [iI 0, iR bn, iI 0])) rfl rfl (hb hby d7_55) _ ?_
    refine XS.icmpNo X50.here hx rfl (hb hby d7_56) rfl (tlt (by decide : (0 : Int32) < (3 : Int32))).2.1 ?_
    refine XS.aload X50.here hx rfl (hb hby d7_59) rfl rfl ?_
    refine XS.iload X50.here hx rfl (hb hby d7_61) rfl ?_
    refine X50.iaload hx (j := (0 : Int32)) (v := (.int x0_)) (by rw [e50]; exact Ar55.1) (State.isArrayOf_alike hZ.alike Ar55.2.1) Ar55.2.2 hin56 (Has.at H55 hin56 rfl) (g := (mkF m 63 #[vR a1, vI 3, vI 1, vI 4, vI 0, vR s0, vI 0, vI 0] [iI 0, iR s0])) rfl rfl (hb hby d7_63) _ ?_
    refine XS.iloadN X50.here hx rfl (hb hby d7_64) rfl ?_
    exact kt
  by_cases hc58 : x0_ < (3 : Int32)
  · have hin60 := inb_of (j := (0 : Int32)) S55 ⟨by decide, by decide⟩
    have hin62 := inb_of (j := (0 : Int32)) S55 ⟨by decide, by decide⟩
    obtain ⟨T63, h63, X63, e63, W63, st63⟩ := stI X50 hx hZ e50 Ar55 (j := (0 : Int32)) hin62 (g := (mkF m 80 #[vR a1, vI 3, vI 1, vI 4, vI 0, vR s0, vI 1, vI 0] [iI x0_, iI 0, iR s0])) rfl rfl (hb hby d7_80)
    have V63 : Arv Z h63 s0 q0 .int (4 : Int32) (own_bs [x0_, x1_, x2_, x3_]) (.int (0 : Int32)) := Arv.set Ar55 q55 S55 M55 H55 G55 rfl W63 0 rfl (Nat.le_of_ble_eq_true rfl)
    have K63 : Keep h0 h63 [a1, bc, bn, s0, s1, s2] := K34.wr W63 (Or.inl (List.mem_of_getElem? (i := 3) rfl))
    have N63 := Fr.snoc X63 N34 g_s0
    have fk64 := (fk49.other W63 (Or.inl ne_a1_s0))
    obtain ⟨T65, X65, e65, st65⟩ := gF X63 hx hZ hown (ww hw 24 rfl) e63 fk64 (g := (mkF m 50 #[vR a1, vI 3, vI 1, vI 4, vI 0, vR s0, vI 1, vI 1] [iR a1, iI 1])) rfl rfl (hb hby d7_50)
    have fk66 := (V34.other W63 ne_bn_s0)
    obtain ⟨cl67, Ar67, q67, S67, M67, H67, G67⟩ := id fk66
    have hin68 := inb_of (j := (0 : Int32)) S67 ⟨by decide, by decide⟩
    obtain ⟨cl70, Ar70, q70, S70, M70, H70, G70⟩ := id V63
    have hin71 := inb_of (j := (1 : Int32)) S70 ⟨by decide, by decide⟩
    have pre74 : ∀ t, Steps p.tables e below (T65.setTop (mkF m 65 #[vR a1, vI 3, vI 1, vI 4, vI 0, vR s0, vI 1, vI 1] [iI 3, iI x1_])) t → Steps p.tables e below (s₁.setTop (entryFrame m #[(.ref a1), (.int (3 : Int32))] 8)) t := by
      intro t kt
      refine pre59 t ?_
      refine XS.icmpNo X50.here hx rfl (hb hby d7_65) rfl (tlt hc58).2.1 ?_
      refine XS.aload X50.here hx rfl (hb hby d7_68) rfl rfl ?_
      refine XS.iload X50.here hx rfl (hb hby d7_70) rfl ?_
      refine XS.iinc X50.here hx rfl (hb hby d7_72) rfl (l' := #[vR a1, vI 3, vI 1, vI 4, vI 0, vR s0, vI ((0 : Int32) + (1 : Int32)), vI 0]) rfl ?_
      rw [(by decide : ((0 : Int32) + (1 : Int32)) = (1 : Int32))]
      refine XS.aload X50.here hx rfl (hb hby d7_75) rfl rfl ?_
      refine XS.iload X50.here hx rfl (hb hby d7_77) rfl ?_
      show SA T50 m 79 #[vR a1, vI 3, vI 1, vI 4, vI 0, vR s0, vI 1, vI 0] [iI 0, iR s0, iI 0, iR s0]
      refine X50.iaload hx (j := (0 : Int32)) (v := (.int x0_)) (by rw [e50]; exact Ar55.1) (State.isArrayOf_alike hZ.alike Ar55.2.1) Ar55.2.2 hin60 (Has.at H55 hin60 rfl) (g := (mkF m 79 #[vR a1, vI 3, vI 1, vI 4, vI 0, vR s0, vI 1, vI 0] [iI 0, iR s0, iI 0, iR s0])) rfl rfl (hb hby d7_79) _ ?_
      refine st63 _ ?_
      refine XS.iinc X63.here hx rfl (hb hby d7_81) rfl (l' := #[vR a1, vI 3, vI 1, vI 4, vI 0, vR s0, vI 1, vI ((0 : Int32) + (1 : Int32))]) rfl ?_
      rw [(by decide : ((0 : Int32) + (1 : Int32)) = (1 : Int32))]
      refine XS.goto X63.here hx rfl (pc0 := 84) (pc' := 47) rfl (hb hby d7_84) (by decide) (by decide) ?_
      refine XS.iload X63.here hx rfl (hb hby d7_47) rfl ?_
      refine XS.aloadN X63.here hx rfl (hb hby d7_49) rfl rfl ?_
      refine st65 _ ?_
      refine XS.iload X65.here hx rfl (hb hby d7_53) rfl ?_
      refine X65.iaload hx (j := (0 : Int32)) (v := (.int (3 : Int32))) (by rw [e65]; exact Ar67.1) (State.isArrayOf_alike hZ.alike Ar67.2.1) Ar67.2.2 hin68 (Has.at H67 hin68 rfl) (g := (mkF m 55 #[vR a1, vI 3, vI 1, vI 4, vI 0, vR s0, vI 1, vI 1] [iI 0, iR bn, iI 1])) rfl rfl (hb hby d7_55) _ ?_
      refine XS.icmpNo X65.here hx rfl (hb hby d7_56) rfl (tlt (by decide : (1 : Int32) < (3 : Int32))).2.1 ?_
      refine XS.aload X65.here hx rfl (hb hby d7_59) rfl rfl ?_
      refine XS.iload X65.here hx rfl (hb hby d7_61) rfl ?_
      refine X65.iaload hx (j := (1 : Int32)) (v := (.int x1_)) (by rw [e65]; exact Ar70.1) (State.isArrayOf_alike hZ.alike Ar70.2.1) Ar70.2.2 hin71 (Has.at H70 hin71 rfl) (g := (mkF m 63 #[vR a1, vI 3, vI 1, vI 4, vI 0, vR s0, vI 1, vI 1] [iI 1, iR s0])) rfl rfl (hb hby d7_63) _ ?_
      refine XS.iloadN X65.here hx rfl (hb hby d7_64) rfl ?_
      exact kt
    by_cases hc73 : x1_ < (3 : Int32)
    · have hin75 := inb_of (j := (1 : Int32)) S70 ⟨by decide, by decide⟩
      have hin77 := inb_of (j := (1 : Int32)) S70 ⟨by decide, by decide⟩
      obtain ⟨T78, h78, X78, e78, W78, st78⟩ := stI X65 hx hZ e65 Ar70 (j := (1 : Int32)) hin77 (g := (mkF m 80 #[vR a1, vI 3, vI 1, vI 4, vI 0, vR s0, vI 2, vI 1] [iI x1_, iI 1, iR s0])) rfl rfl (hb hby d7_80)
      have V78 : Arv Z h78 s0 q0 .int (4 : Int32) (own_bs [x0_, x1_, x2_, x3_]) (.int (0 : Int32)) := Arv.set Ar70 q70 S70 M70 H70 G70 rfl W78 1 rfl (Nat.le_of_ble_eq_true rfl)
      have K78 : Keep h0 h78 [a1, bc, bn, s0, s1, s2] := K63.wr W78 (Or.inl (List.mem_of_getElem? (i := 3) rfl))
      have N78 := Fr.snoc X78 N63 g_s0
      have fk79 := (fk64.other W78 (Or.inl ne_a1_s0))
      obtain ⟨T80, X80, e80, st80⟩ := gF X78 hx hZ hown (ww hw 24 rfl) e78 fk79 (g := (mkF m 50 #[vR a1, vI 3, vI 1, vI 4, vI 0, vR s0, vI 2, vI 2] [iR a1, iI 2])) rfl rfl (hb hby d7_50)
      have fk81 := (fk66.other W78 ne_bn_s0)
      obtain ⟨cl82, Ar82, q82, S82, M82, H82, G82⟩ := id fk81
      have hin83 := inb_of (j := (0 : Int32)) S82 ⟨by decide, by decide⟩
      obtain ⟨cl85, Ar85, q85, S85, M85, H85, G85⟩ := id V78
      have hin86 := inb_of (j := (2 : Int32)) S85 ⟨by decide, by decide⟩
      have pre89 : ∀ t, Steps p.tables e below (T80.setTop (mkF m 65 #[vR a1, vI 3, vI 1, vI 4, vI 0, vR s0, vI 2, vI 2] [iI 3, iI x2_])) t → Steps p.tables e below (s₁.setTop (entryFrame m #[(.ref a1), (.int (3 : Int32))] 8)) t := by
        intro t kt
        refine pre74 t ?_
        refine XS.icmpNo X65.here hx rfl (hb hby d7_65) rfl (tlt hc73).2.1 ?_
        refine XS.aload X65.here hx rfl (hb hby d7_68) rfl rfl ?_
        refine XS.iload X65.here hx rfl (hb hby d7_70) rfl ?_
        refine XS.iinc X65.here hx rfl (hb hby d7_72) rfl (l' := #[vR a1, vI 3, vI 1, vI 4, vI 0, vR s0, vI ((1 : Int32) + (1 : Int32)), vI 1]) rfl ?_
        rw [(by decide : ((1 : Int32) + (1 : Int32)) = (2 : Int32))]
        refine XS.aload X65.here hx rfl (hb hby d7_75) rfl rfl ?_
        refine XS.iload X65.here hx rfl (hb hby d7_77) rfl ?_
        show SA T65 m 79 #[vR a1, vI 3, vI 1, vI 4, vI 0, vR s0, vI 2, vI 1] [iI 1, iR s0, iI 1, iR s0]
        refine X65.iaload hx (j := (1 : Int32)) (v := (.int x1_)) (by rw [e65]; exact Ar70.1) (State.isArrayOf_alike hZ.alike Ar70.2.1) Ar70.2.2 hin75 (Has.at H70 hin75 rfl) (g := (mkF m 79 #[vR a1, vI 3, vI 1, vI 4, vI 0, vR s0, vI 2, vI 1] [iI 1, iR s0, iI 1, iR s0])) rfl rfl (hb hby d7_79) _ ?_
        refine st78 _ ?_
        refine XS.iinc X78.here hx rfl (hb hby d7_81) rfl (l' := #[vR a1, vI 3, vI 1, vI 4, vI 0, vR s0, vI 2, vI ((1 : Int32) + (1 : Int32))]) rfl ?_
        rw [(by decide : ((1 : Int32) + (1 : Int32)) = (2 : Int32))]
        refine XS.goto X78.here hx rfl (pc0 := 84) (pc' := 47) rfl (hb hby d7_84) (by decide) (by decide) ?_
        refine XS.iload X78.here hx rfl (hb hby d7_47) rfl ?_
        refine XS.aloadN X78.here hx rfl (hb hby d7_49) rfl rfl ?_
        refine st80 _ ?_
        refine XS.iload X80.here hx rfl (hb hby d7_53) rfl ?_
        refine X80.iaload hx (j := (0 : Int32)) (v := (.int (3 : Int32))) (by rw [e80]; exact Ar82.1) (State.isArrayOf_alike hZ.alike Ar82.2.1) Ar82.2.2 hin83 (Has.at H82 hin83 rfl) (g := (mkF m 55 #[vR a1, vI 3, vI 1, vI 4, vI 0, vR s0, vI 2, vI 2] [iI 0, iR bn, iI 2])) rfl rfl (hb hby d7_55) _ ?_
        refine XS.icmpNo X80.here hx rfl (hb hby d7_56) rfl (tlt (by decide : (2 : Int32) < (3 : Int32))).2.1 ?_
        refine XS.aload X80.here hx rfl (hb hby d7_59) rfl rfl ?_
        refine XS.iload X80.here hx rfl (hb hby d7_61) rfl ?_
        refine X80.iaload hx (j := (2 : Int32)) (v := (.int x2_)) (by rw [e80]; exact Ar85.1) (State.isArrayOf_alike hZ.alike Ar85.2.1) Ar85.2.2 hin86 (Has.at H85 hin86 rfl) (g := (mkF m 63 #[vR a1, vI 3, vI 1, vI 4, vI 0, vR s0, vI 2, vI 2] [iI 2, iR s0])) rfl rfl (hb hby d7_63) _ ?_
        refine XS.iloadN X80.here hx rfl (hb hby d7_64) rfl ?_
        exact kt
      by_cases hc88 : x2_ < (3 : Int32)
      · exfalso; exact absurd hpat (by simp only [hc58, hc73, hc88, or_false, or_true, true_or, false_or, and_true, true_and, false_and, and_false, not_true_eq_false, not_false_eq_true])
      · obtain ⟨T90, X90, e90, st90⟩ := gF X80 hx hZ hown (ww hw 24 rfl) e80 fk79 (g := (mkF m 50 #[vR a1, vI 3, vI 1, vI 4, vI 0, vR s0, vI 2, vI 3] [iR a1, iI 3])) rfl rfl (hb hby d7_50)
        have hin91 := inb_of (j := (0 : Int32)) S82 ⟨by decide, by decide⟩
        obtain ⟨T93, X93, e93, st93⟩ := gF X90 hx hZ hown (ww hw 24 rfl) e90 fk79 (g := (mkF m 88 #[vR a1, vI 3, vI 1, vI 4, vI 0, vR s0, vI 2, vI 3] [iR a1])) rfl rfl (hb hby d7_88)
        have hin94 := inb_of (j := (0 : Int32)) S82 ⟨by decide, by decide⟩
        obtain ⟨T95, h95, X95, e95, W95, st95⟩ := stI X93 hx hZ e93 Ar82 (j := (0 : Int32)) hin94 (g := (mkF m 95 #[vR a1, vI 3, vI 1, vI 4, vI 0, vR s0, vI 2, vI 3] [iI 2, iI 0, iR bn])) rfl rfl (hb hby d7_95)
        have V95 : Arv Z h95 bn kn .int (16 : Int32) (own_bs [2, 0, 2, 0, 0, 0, 0, 0, 0, 0, 0, 0, 0, 0, 0, 0]) (.int (0 : Int32)) := Arv.set Ar82 q82 S82 M82 H82 G82 rfl W95 0 rfl (Nat.le_of_ble_eq_true rfl)
        have K95 : Keep h0 h95 [a1, bc, bn, s0, s1, s2] := K78.wr W95 (Or.inl (List.mem_of_getElem? (i := 2) rfl))
        have N95 := Fr.snoc X95 N78 g_bn
        have fk96 := (((fk43.other W63 (Or.inl ne_a1_s0)).other W78 (Or.inl ne_a1_s0)).other W95 (Or.inl ne_a1_bn))
        obtain ⟨T97, X97, e97, st97⟩ := gF X95 hx hZ hown (ww hw 22 rfl) e95 fk96 (g := (mkF m 100 #[vR a1, vI 3, vI 0, vI 4, vI 0, vR s0, vI 2, vI 3] [iR a1])) rfl rfl (hb hby d7_100)
        have fk98 := (((fk45.other W63 ne_bc_s0).other W78 ne_bc_s0).other W95 ne_bc_bn)
        obtain ⟨cl99, Ar99, q99, S99, M99, H99, G99⟩ := id fk98
        have hin100 := inb_of (j := (4 : Int32)) S99 ⟨by decide, by decide⟩
        obtain ⟨T101, h101, X101, e101, W101, st101⟩ := stR X97 hx hZ e97 Ar99 (j := (4 : Int32)) (v := .null) hin100 rfl (Or.inl rfl) (g := (mkF m 105 #[vR a1, vI 3, vI 0, vI 4, vI 0, vR s0, vI 2, vI 3] [.null, iI 4, iR bc])) rfl rfl (hb hby d7_105)
        have V101 : Arv Z h101 bc kc (.array .int) (16 : Int32) [(.ref s0), (.ref s1), (.ref s2), .null, .null, .null, .null, .null, .null, .null, .null, .null, .null, .null, .null, .null] .null := Arv.set Ar99 q99 S99 M99 H99 G99 rfl W101 4 rfl (Nat.le_of_ble_eq_true rfl)
        have K101 : Keep h0 h101 [a1, bc, bn, s0, s1, s2] := K95.wr W101 (Or.inl (List.mem_of_getElem? (i := 1) rfl))
        have N101 := Fr.snoc X101 N95 g_bc
        have fk102 := ((fk79.other W95 (Or.inl ne_a1_bn)).other W101 (Or.inl ne_a1_bc))
        obtain ⟨T103, X103, e103, st103⟩ := gF X101 hx hZ hown (ww hw 24 rfl) e101 fk102 (g := (mkF m 107 #[vR a1, vI 3, vI 0, vI 4, vI 0, vR s0, vI 2, vI 3] [iR a1])) rfl rfl (hb hby d7_107)
        have fk104 := (V95.other W101 (Ne.symm ne_bc_bn))
        obtain ⟨cl105, Ar105, q105, S105, M105, H105, G105⟩ := id fk104
        have hin106 := inb_of (j := (4 : Int32)) S105 ⟨by decide, by decide⟩
        obtain ⟨T107, h107, X107, e107, W107, st107⟩ := stI X103 hx hZ e103 Ar105 (j := (4 : Int32)) hin106 (g := (mkF m 112 #[vR a1, vI 3, vI 0, vI 4, vI 0, vR s0, vI 2, vI 3] [iI 0, iI 4, iR bn])) rfl rfl (hb hby d7_112)
        have V107 : Arv Z h107 bn kn .int (16 : Int32) (own_bs [2, 0, 2, 0, 0, 0, 0, 0, 0, 0, 0, 0, 0, 0, 0, 0]) (.int (0 : Int32)) := Arv.set Ar105 q105 S105 M105 H105 G105 rfl W107 4 rfl (Nat.le_of_ble_eq_true rfl)
        have K107 : Keep h0 h107 [a1, bc, bn, s0, s1, s2] := K101.wr W107 (Or.inl (List.mem_of_getElem? (i := 2) rfl))
        have N107 := Fr.snoc X107 N101 g_bn
        have fk108 := ((((((((E_a1.wr W22).wr W28).wr W34).wr W63).wr W78).wr W95).wr W101).wr W107)
        have fk109 := (((((fk35.other W63 (Or.inl ne_a1_s0)).other W78 (Or.inl ne_a1_s0)).other W95 (Or.inl ne_a1_bn)).other W101 (Or.inl ne_a1_bc)).other W107 (Or.inl ne_a1_bn))
        have fk110 := ((((((((F_items.other W22 (Or.inl ne_a1_bn)).other W28 (Or.inl ne_a1_bc)).other W34 (Or.inl ne_a1_bn)).other W63 (Or.inl ne_a1_s0)).other W78 (Or.inl ne_a1_s0)).other W95 (Or.inl ne_a1_bn)).other W101 (Or.inl ne_a1_bc)).other W107 (Or.inl ne_a1_bn))
        have fk111 := ((((((((V_bi.other W22 ne_bi_bn).other W28 ne_bi_bc).other W34 ne_bi_bn).other W63 ne_bi_s0).other W78 ne_bi_s0).other W95 ne_bi_bn).other W101 ne_bi_bc).other W107 ne_bi_bn)
        have fk112 := ((((((((F_sameEvents.other W22 (Or.inl ne_a1_bn)).other W28 (Or.inl ne_a1_bc)).other W34 (Or.inl ne_a1_bn)).other W63 (Or.inl ne_a1_s0)).other W78 (Or.inl ne_a1_s0)).other W95 (Or.inl ne_a1_bn)).other W101 (Or.inl ne_a1_bc)).other W107 (Or.inl ne_a1_bn))
        have fk113 := ((((((((V_bf.other W22 ne_bf_bn).other W28 ne_bf_bc).other W34 ne_bf_bn).other W63 ne_bf_s0).other W78 ne_bf_s0).other W95 ne_bf_bn).other W101 ne_bf_bc).other W107 ne_bf_bn)
        have fk114 := (((((fk37.other W63 (Or.inl ne_a1_s0)).other W78 (Or.inl ne_a1_s0)).other W95 (Or.inl ne_a1_bn)).other W101 (Or.inl ne_a1_bc)).other W107 (Or.inl ne_a1_bn))
        have fk115 := (((((fk39.other W63 ne_bp_s0).other W78 ne_bp_s0).other W95 ne_bp_bn).other W101 ne_bp_bc).other W107 ne_bp_bn)
        have fk116 := ((fk96.other W101 (Or.inl ne_a1_bc)).other W107 (Or.inl ne_a1_bn))
        have fk117 := (V101.other W107 ne_bc_bn)
        have fk118 := (fk102.other W107 (Or.inl ne_a1_bn))
        have fk119 := (((V78.other W95 (Ne.symm ne_bn_s0)).other W101 (Ne.symm ne_bc_s0)).other W107 (Ne.symm ne_bn_s0))
        have fk120 := ((((((((E_s0.wr W22).wr W28).wr W34).wr W63).wr W78).wr W95).wr W101).wr W107)
        have fk121 := ((((((((V_s1.other W22 (Ne.symm ne_bn_s1)).other W28 (Ne.symm ne_bc_s1)).other W34 (Ne.symm ne_bn_s1)).other W63 (Ne.symm ne_s0_s1)).other W78 (Ne.symm ne_s0_s1)).other W95 (Ne.symm ne_bn_s1)).other W101 (Ne.symm ne_bc_s1)).other W107 (Ne.symm ne_bn_s1))
        have fk122 := ((((((((E_s1.wr W22).wr W28).wr W34).wr W63).wr W78).wr W95).wr W101).wr W107)
        have fk123 := ((((((((V_s2.other W22 (Ne.symm ne_bn_s2)).other W28 (Ne.symm ne_bc_s2)).other W34 (Ne.symm ne_bn_s2)).other W63 (Ne.symm ne_s0_s2)).other W78 (Ne.symm ne_s0_s2)).other W95 (Ne.symm ne_bn_s2)).other W101 (Ne.symm ne_bc_s2)).other W107 (Ne.symm ne_bn_s2))
        have fk124 := ((((((((E_s2.wr W22).wr W28).wr W34).wr W63).wr W78).wr W95).wr W101).wr W107)
        have pre125 : ∀ t, Steps p.tables e below (T107.setTop (mkF m 4 #[vR a1, vI 3, vI 0, vI 5, vI 0, vR s0, vI 2, vI 3] [])) t → Steps p.tables e below (s₁.setTop (entryFrame m #[(.ref a1), (.int (3 : Int32))] 8)) t := by
          intro t kt
          refine pre89 t ?_
          refine XS.icmpYes X80.here hx rfl (pc0 := 65) (pc' := 81) rfl (hb hby d7_65) rfl (flt hc88).2.1 (by decide) (by decide) ?_
          refine XS.iinc X80.here hx rfl (hb hby d7_81) rfl (l' := #[vR a1, vI 3, vI 1, vI 4, vI 0, vR s0, vI 2, vI ((2 : Int32) + (1 : Int32))]) rfl ?_
          rw [(by decide : ((2 : Int32) + (1 : Int32)) = (3 : Int32))]
          refine XS.goto X80.here hx rfl (pc0 := 84) (pc' := 47) rfl (hb hby d7_84) (by decide) (by decide) ?_
          refine XS.iload X80.here hx rfl (hb hby d7_47) rfl ?_
          refine XS.aloadN X80.here hx rfl (hb hby d7_49) rfl rfl ?_
          refine st90 _ ?_
          refine XS.iload X90.here hx rfl (hb hby d7_53) rfl ?_
          refine X90.iaload hx (j := (0 : Int32)) (v := (.int (3 : Int32))) (by rw [e90]; exact Ar82.1) (State.isArrayOf_alike hZ.alike Ar82.2.1) Ar82.2.2 hin91 (Has.at H82 hin91 rfl) (g := (mkF m 55 #[vR a1, vI 3, vI 1, vI 4, vI 0, vR s0, vI 2, vI 3] [iI 0, iR bn, iI 3])) rfl rfl (hb hby d7_55) _ ?_
          refine XS.icmpYes X90.here hx rfl (pc0 := 56) (pc' := 87) rfl (hb hby d7_56) rfl (flt (by decide : ¬ ((3 : Int32) < (3 : Int32)))).2.1 (by decide) (by decide) ?_
          refine XS.aloadN X90.here hx rfl (hb hby d7_87) rfl rfl ?_
          refine st93 _ ?_
          refine XS.iload X93.here hx rfl (hb hby d7_91) rfl ?_
          refine XS.iload X93.here hx rfl (hb hby d7_93) rfl ?_
          refine st95 _ ?_
          refine XS.iload X95.here hx rfl (hb hby d7_96) rfl ?_
          refine XS.istoreN X95.here hx rfl (hb hby d7_98) rfl (l' := #[vR a1, vI 3, vI 0, vI 4, vI 0, vR s0, vI 2, vI 3]) rfl ?_
          refine XS.aloadN X95.here hx rfl (hb hby d7_99) rfl rfl ?_
          refine st97 _ ?_
          refine XS.iloadN X97.here hx rfl (hb hby d7_103) rfl ?_
          refine XS.aconstNull X97.here hx rfl (hb hby d7_104) ?_
          refine st101 _ ?_
          refine XS.aloadN X101.here hx rfl (hb hby d7_106) rfl rfl ?_
          refine st103 _ ?_
          refine XS.iloadN X103.here hx rfl (hb hby d7_110) rfl ?_
          refine XS.iconst X103.here hx rfl (hb hby d7_111) ?_
          refine st107 _ ?_
          refine XS.iinc X107.here hx rfl (hb hby d7_113) rfl (l' := #[vR a1, vI 3, vI 0, vI ((4 : Int32) + (1 : Int32)), vI 0, vR s0, vI 2, vI 3]) rfl ?_
          rw [(by decide : ((4 : Int32) + (1 : Int32)) = (5 : Int32))]
          refine XS.goto X107.here hx rfl (pc0 := 116) (pc' := 4) rfl (hb hby d7_116) (by decide) (by decide) ?_
          exact kt
        obtain ⟨s₂, o₂, hs₂, hr₂⟩ := own_t7_x (K_ := (3 : Int32)) (n1_ := (0 : Int32)) (IL := IL) (FL := FL) (x0_ := x0_) (x1_ := x1_) (x2_ := x2_) (x3_ := x3_) (w0_ := x0_) (w1_ := x1_) (w2_ := x2_) (w3_ := x3_) (y1_ := y1_) (y2_ := y2_) (y3_ := y3_) (z0_ := z0_) (z1_ := z1_) (z2_ := z2_) (z3_ := z3_) X107 hx hZ hw hby hml hown Bd.returns (by first | assumption | exact BodyLoose.notSynchronized (by assumption) | exact Body.notSynchronized (by assumption)) e107 K107 N107 Z0 fk108 fk109 fk110 fk111 fk112 fk113 fk114 fk115 fk116 fk117 fk118 V107 fk119 fk120 fk121 fk122 fk123 fk124 hpr1 hpr2 hpr3 hpr4 hpr5 hpr6 g_a1 g_bi g_bf g_bp g_bc g_bn g_s0 g_s1 g_s2 ne_a1_bi ne_a1_bf ne_a1_bp ne_a1_bc ne_a1_bn ne_a1_s0 ne_a1_s1 ne_a1_s2 ne_bi_bf ne_bi_bp ne_bi_bc ne_bi_bn ne_bi_s0 ne_bi_s1 ne_bi_s2 ne_bf_bp ne_bf_bc ne_bf_bn ne_bf_s0 ne_bf_s1 ne_bf_s2 ne_bp_bc ne_bp_bn ne_bp_s0 ne_bp_s1 ne_bp_s2 ne_bc_bn ne_bc_s0 ne_bc_s1 ne_bc_s2 ne_bn_s0 ne_bn_s1 ne_bn_s2 ne_s0_s1 ne_s0_s2 ne_s1_s2 (by decide) h_z0_ h_z1_ ⟨fun h => absurd hc58 h, fun h => absurd hc73 h, fun _ => ⟨rfl, rfl⟩⟩
        exact ⟨s₂, o₂, pre125 _ hs₂, hr₂⟩
    · obtain ⟨T126, X126, e126, st126⟩ := gF X65 hx hZ hown (ww hw 24 rfl) e65 fk64 (g := (mkF m 50 #[vR a1, vI 3, vI 1, vI 4, vI 0, vR s0, vI 1, vI 2] [iR a1, iI 2])) rfl rfl (hb hby d7_50)
      have hin127 := inb_of (j := (0 : Int32)) S67 ⟨by decide, by decide⟩
      have hin129 := inb_of (j := (2 : Int32)) S70 ⟨by decide, by decide⟩
      have pre132 : ∀ t, Steps p.tables e below (T126.setTop (mkF m 65 #[vR a1, vI 3, vI 1, vI 4, vI 0, vR s0, vI 1, vI 2] [iI 3, iI x2_])) t → Steps p.tables e below (s₁.setTop (entryFrame m #[(.ref a1), (.int (3 : Int32))] 8)) t := by
        intro t kt
        refine pre74 t ?_
        refine XS.icmpYes X65.here hx rfl (pc0 := 65) (pc' := 81) rfl (hb hby d7_65) rfl (flt hc73).2.1 (by decide) (by decide) ?_
        refine XS.iinc X65.here hx rfl (hb hby d7_81) rfl (l' := #[vR a1, vI 3, vI 1, vI 4, vI 0, vR s0, vI 1, vI ((1 : Int32) + (1 : Int32))]) rfl ?_
        rw [(by decide : ((1 : Int32) + (1 : Int32)) = (2 : Int32))]
        refine XS.goto X65.here hx rfl (pc0 := 84) (pc' := 47) rfl (hb hby d7_84) (by decide) (by decide) ?_
        refine XS.iload X65.here hx rfl (hb hby d7_47) rfl ?_
        refine XS.aloadN X65.here hx rfl (hb hby d7_49) rfl rfl ?_
        refine st126 _ ?_
        refine XS.iload X126.here hx rfl (hb hby d7_53) rfl ?_
        refine X126.iaload hx (j := (0 : Int32)) (v := (.int (3 : Int32))) (by rw [e126]; exact Ar67.1) (State.isArrayOf_alike hZ.alike Ar67.2.1) Ar67.2.2 hin127 (Has.at H67 hin127 rfl) (g := (mkF m 55 #[vR a1, vI 3, vI 1, vI 4, vI 0, vR s0, vI 1, vI 2] [iI 0, iR bn, iI 2])) rfl rfl (hb hby d7_55) _ ?_
        refine XS.icmpNo X126.here hx rfl (hb hby d7_56) rfl (tlt (by decide : (2 : Int32) < (3 : Int32))).2.1 ?_
        refine XS.aload X126.here hx rfl (hb hby d7_59) rfl rfl ?_
        refine XS.iload X126.here hx rfl (hb hby d7_61) rfl ?_
        refine X126.iaload hx (j := (2 : Int32)) (v := (.int x2_)) (by rw [e126]; exact Ar70.1) (State.isArrayOf_alike hZ.alike Ar70.2.1) Ar70.2.2 hin129 (Has.at H70 hin129 rfl) (g := (mkF m 63 #[vR a1, vI 3, vI 1, vI 4, vI 0, vR s0, vI 1, vI 2] [iI 2, iR s0])) rfl rfl (hb hby d7_63) _ ?_
        refine XS.iloadN X126.here hx rfl (hb hby d7_64) rfl ?_
        exact kt
      by_cases hc131 : x2_ < (3 : Int32)
      · have hin133 := inb_of (j := (2 : Int32)) S70 ⟨by decide, by decide⟩
        have hin135 := inb_of (j := (1 : Int32)) S70 ⟨by decide, by decide⟩
        obtain ⟨T136, h136, X136, e136, W136, st136⟩ := stI X126 hx hZ e126 Ar70 (j := (1 : Int32)) hin135 (g := (mkF m 80 #[vR a1, vI 3, vI 1, vI 4, vI 0, vR s0, vI 2, vI 2] [iI x2_, iI 1, iR s0])) rfl rfl (hb hby d7_80)
        have V136 : Arv Z h136 s0 q0 .int (4 : Int32) (own_bs [x0_, x2_, x2_, x3_]) (.int (0 : Int32)) := Arv.set Ar70 q70 S70 M70 H70 G70 rfl W136 1 rfl (Nat.le_of_ble_eq_true rfl)
        have K136 : Keep h0 h136 [a1, bc, bn, s0, s1, s2] := K63.wr W136 (Or.inl (List.mem_of_getElem? (i := 3) rfl))
        have N136 := Fr.snoc X136 N63 g_s0
        have fk137 := (fk64.other W136 (Or.inl ne_a1_s0))
        obtain ⟨T138, X138, e138, st138⟩ := gF X136 hx hZ hown (ww hw 24 rfl) e136 fk137 (g := (mkF m 50 #[vR a1, vI 3, vI 1, vI 4, vI 0, vR s0, vI 2, vI 3] [iR a1, iI 3])) rfl rfl (hb hby d7_50)
        have fk139 := (fk66.other W136 ne_bn_s0)
        obtain ⟨cl140, Ar140, q140, S140, M140, H140, G140⟩ := id fk139
        have hin141 := inb_of (j := (0 : Int32)) S140 ⟨by decide, by decide⟩
        obtain ⟨T143, X143, e143, st143⟩ := gF X138 hx hZ hown (ww hw 24 rfl) e138 fk137 (g := (mkF m 88 #[vR a1, vI 3, vI 1, vI 4, vI 0, vR s0, vI 2, vI 3] [iR a1])) rfl rfl (hb hby d7_88)
        have hin144 := inb_of (j := (0 : Int32)) S140 ⟨by decide, by decide⟩
        obtain ⟨T145, h145, X145, e145, W145, st145⟩ := stI X143 hx hZ e143 Ar140 (j := (0 : Int32)) hin144 (g := (mkF m 95 #[vR a1, vI 3, vI 1, vI 4, vI 0, vR s0, vI 2, vI 3] [iI 2, iI 0, iR bn])) rfl rfl (hb hby d7_95)
        have V145 : Arv Z h145 bn kn .int (16 : Int32) (own_bs [2, 0, 2, 0, 0, 0, 0, 0, 0, 0, 0, 0, 0, 0, 0, 0]) (.int (0 : Int32)) := Arv.set Ar140 q140 S140 M140 H140 G140 rfl W145 0 rfl (Nat.le_of_ble_eq_true rfl)
        have K145 : Keep h0 h145 [a1, bc, bn, s0, s1, s2] := K136.wr W145 (Or.inl (List.mem_of_getElem? (i := 2) rfl))
        have N145 := Fr.snoc X145 N136 g_bn
        have fk146 := (((fk43.other W63 (Or.inl ne_a1_s0)).other W136 (Or.inl ne_a1_s0)).other W145 (Or.inl ne_a1_bn))
        obtain ⟨T147, X147, e147, st147⟩ := gF X145 hx hZ hown (ww hw 22 rfl) e145 fk146 (g := (mkF m 100 #[vR a1, vI 3, vI 0, vI 4, vI 0, vR s0, vI 2, vI 3] [iR a1])) rfl rfl (hb hby d7_100)
        have fk148 := (((fk45.other W63 ne_bc_s0).other W136 ne_bc_s0).other W145 ne_bc_bn)
        obtain ⟨cl149, Ar149, q149, S149, M149, H149, G149⟩ := id fk148
        have hin150 := inb_of (j := (4 : Int32)) S149 ⟨by decide, by decide⟩
        obtain ⟨T151, h151, X151, e151, W151, st151⟩ := stR X147 hx hZ e147 Ar149 (j := (4 : Int32)) (v := .null) hin150 rfl (Or.inl rfl) (g := (mkF m 105 #[vR a1, vI 3, vI 0, vI 4, vI 0, vR s0, vI 2, vI 3] [.null, iI 4, iR bc])) rfl rfl (hb hby d7_105)
        have V151 : Arv Z h151 bc kc (.array .int) (16 : Int32) [(.ref s0), (.ref s1), (.ref s2), .null, .null, .null, .null, .null, .null, .null, .null, .null, .null, .null, .null, .null] .null := Arv.set Ar149 q149 S149 M149 H149 G149 rfl W151 4 rfl (Nat.le_of_ble_eq_true rfl)
        have K151 : Keep h0 h151 [a1, bc, bn, s0, s1, s2] := K145.wr W151 (Or.inl (List.mem_of_getElem? (i := 1) rfl))
        have N151 := Fr.snoc X151 N145 g_bc
        have fk152 := ((fk137.other W145 (Or.inl ne_a1_bn)).other W151 (Or.inl ne_a1_bc))
        obtain ⟨T153, X153, e153, st153⟩ := gF X151 hx hZ hown (ww hw 24 rfl) e151 fk152 (g := (mkF m 107 #[vR a1, vI 3, vI 0, vI 4, vI 0, vR s0, vI 2, vI 3] [iR a1])) rfl rfl (hb hby d7_107)
        have fk154 := (V145.other W151 (Ne.symm ne_bc_bn))
        obtain ⟨cl155, Ar155, q155, S155, M155, H155, G155⟩ := id fk154
        have hin156 := inb_of (j := (4 : Int32)) S155 ⟨by decide, by decide⟩
        obtain ⟨T157, h157, X157, e157, W157, st157⟩ := stI X153 hx hZ e153 Ar155 (j := (4 : Int32)) hin156 (g := (mkF m 112 #[vR a1, vI 3, vI 0, vI 4, vI 0, vR s0, vI 2, vI 3] [iI 0, iI 4, iR bn])) rfl rfl (hb hby d7_112)
        have V157 : Arv Z h157 bn kn .int (16 : Int32) (own_bs [2, 0, 2, 0, 0, 0, 0, 0, 0, 0, 0, 0, 0, 0, 0, 0]) (.int (0 : Int32)) := Arv.set Ar155 q155 S155 M155 H155 G155 rfl W157 4 rfl (Nat.le_of_ble_eq_true rfl)
        have K157 : Keep h0 h157 [a1, bc, bn, s0, s1, s2] := K151.wr W157 (Or.inl (List.mem_of_getElem? (i := 2) rfl))
        have N157 := Fr.snoc X157 N151 g_bn
        have fk158 := ((((((((E_a1.wr W22).wr W28).wr W34).wr W63).wr W136).wr W145).wr W151).wr W157)
        have fk159 := (((((fk35.other W63 (Or.inl ne_a1_s0)).other W136 (Or.inl ne_a1_s0)).other W145 (Or.inl ne_a1_bn)).other W151 (Or.inl ne_a1_bc)).other W157 (Or.inl ne_a1_bn))
        have fk160 := ((((((((F_items.other W22 (Or.inl ne_a1_bn)).other W28 (Or.inl ne_a1_bc)).other W34 (Or.inl ne_a1_bn)).other W63 (Or.inl ne_a1_s0)).other W136 (Or.inl ne_a1_s0)).other W145 (Or.inl ne_a1_bn)).other W151 (Or.inl ne_a1_bc)).other W157 (Or.inl ne_a1_bn))
        have fk161 := ((((((((V_bi.other W22 ne_bi_bn).other W28 ne_bi_bc).other W34 ne_bi_bn).other W63 ne_bi_s0).other W136 ne_bi_s0).other W145 ne_bi_bn).other W151 ne_bi_bc).other W157 ne_bi_bn)
        have fk162 := ((((((((F_sameEvents.other W22 (Or.inl ne_a1_bn)).other W28 (Or.inl ne_a1_bc)).other W34 (Or.inl ne_a1_bn)).other W63 (Or.inl ne_a1_s0)).other W136 (Or.inl ne_a1_s0)).other W145 (Or.inl ne_a1_bn)).other W151 (Or.inl ne_a1_bc)).other W157 (Or.inl ne_a1_bn))
        have fk163 := ((((((((V_bf.other W22 ne_bf_bn).other W28 ne_bf_bc).other W34 ne_bf_bn).other W63 ne_bf_s0).other W136 ne_bf_s0).other W145 ne_bf_bn).other W151 ne_bf_bc).other W157 ne_bf_bn)
        have fk164 := (((((fk37.other W63 (Or.inl ne_a1_s0)).other W136 (Or.inl ne_a1_s0)).other W145 (Or.inl ne_a1_bn)).other W151 (Or.inl ne_a1_bc)).other W157 (Or.inl ne_a1_bn))
        have fk165 := (((((fk39.other W63 ne_bp_s0).other W136 ne_bp_s0).other W145 ne_bp_bn).other W151 ne_bp_bc).other W157 ne_bp_bn)
        have fk166 := ((fk146.other W151 (Or.inl ne_a1_bc)).other W157 (Or.inl ne_a1_bn))
        have fk167 := (V151.other W157 ne_bc_bn)
        have fk168 := (fk152.other W157 (Or.inl ne_a1_bn))
        have fk169 := (((V136.other W145 (Ne.symm ne_bn_s0)).other W151 (Ne.symm ne_bc_s0)).other W157 (Ne.symm ne_bn_s0))
        have fk170 := ((((((((E_s0.wr W22).wr W28).wr W34).wr W63).wr W136).wr W145).wr W151).wr W157)
        have fk171 := ((((((((V_s1.other W22 (Ne.symm ne_bn_s1)).other W28 (Ne.symm ne_bc_s1)).other W34 (Ne.symm ne_bn_s1)).other W63 (Ne.symm ne_s0_s1)).other W136 (Ne.symm ne_s0_s1)).other W145 (Ne.symm ne_bn_s1)).other W151 (Ne.symm ne_bc_s1)).other W157 (Ne.symm ne_bn_s1))
        have fk172 := ((((((((E_s1.wr W22).wr W28).wr W34).wr W63).wr W136).wr W145).wr W151).wr W157)
        have fk173 := ((((((((V_s2.other W22 (Ne.symm ne_bn_s2)).other W28 (Ne.symm ne_bc_s2)).other W34 (Ne.symm ne_bn_s2)).other W63 (Ne.symm ne_s0_s2)).other W136 (Ne.symm ne_s0_s2)).other W145 (Ne.symm ne_bn_s2)).other W151 (Ne.symm ne_bc_s2)).other W157 (Ne.symm ne_bn_s2))
        have fk174 := ((((((((E_s2.wr W22).wr W28).wr W34).wr W63).wr W136).wr W145).wr W151).wr W157)
        have pre175 : ∀ t, Steps p.tables e below (T157.setTop (mkF m 4 #[vR a1, vI 3, vI 0, vI 5, vI 0, vR s0, vI 2, vI 3] [])) t → Steps p.tables e below (s₁.setTop (entryFrame m #[(.ref a1), (.int (3 : Int32))] 8)) t := by
          intro t kt
          refine pre132 t ?_
          refine XS.icmpNo X126.here hx rfl (hb hby d7_65) rfl (tlt hc131).2.1 ?_
          refine XS.aload X126.here hx rfl (hb hby d7_68) rfl rfl ?_
          refine XS.iload X126.here hx rfl (hb hby d7_70) rfl ?_
          refine XS.iinc X126.here hx rfl (hb hby d7_72) rfl (l' := #[vR a1, vI 3, vI 1, vI 4, vI 0, vR s0, vI ((1 : Int32) + (1 : Int32)), vI 2]) rfl ?_
          rw [(by decide : ((1 : Int32) + (1 : Int32)) = (2 : Int32))]
          refine XS.aload X126.here hx rfl (hb hby d7_75) rfl rfl ?_
          refine XS.iload X126.here hx rfl (hb hby d7_77) rfl ?_
          show SA T126 m 79 #[vR a1, vI 3, vI 1, vI 4, vI 0, vR s0, vI 2, vI 2] [iI 2, iR s0, iI 1, iR s0]
          refine X126.iaload hx (j := (2 : Int32)) (v := (.int x2_)) (by rw [e126]; exact Ar70.1) (State.isArrayOf_alike hZ.alike Ar70.2.1) Ar70.2.2 hin133 (Has.at H70 hin133 rfl) (g := (mkF m 79 #[vR a1, vI 3, vI 1, vI 4, vI 0, vR s0, vI 2, vI 2] [iI 2, iR s0, iI 1, iR s0])) rfl rfl (hb hby d7_79) _ ?_
          refine st136 _ ?_
          refine XS.iinc X136.here hx rfl (hb hby d7_81) rfl (l' := #[vR a1, vI 3, vI 1, vI 4, vI 0, vR s0, vI 2, vI ((2 : Int32) + (1 : Int32))]) rfl ?_
          rw [(by decide : ((2 : Int32) + (1 : Int32)) = (3 : Int32))]
          refine XS.goto X136.here hx rfl (pc0 := 84) (pc' := 47) rfl (hb hby d7_84) (by decide) (by decide) ?_
          refine XS.iload X136.here hx rfl (hb hby d7_47) rfl ?_
          refine XS.aloadN X136.here hx rfl (hb hby d7_49) rfl rfl ?_
          refine st138 _ ?_
          refine XS.iload X138.here hx rfl (hb hby d7_53) rfl ?_
          refine X138.iaload hx (j := (0 : Int32)) (v := (.int (3 : Int32))) (by rw [e138]; exact Ar140.1) (State.isArrayOf_alike hZ.alike Ar140.2.1) Ar140.2.2 hin141 (Has.at H140 hin141 rfl) (g := (mkF m 55 #[vR a1, vI 3, vI 1, vI 4, vI 0, vR s0, vI 2, vI 3] [iI 0, iR bn, iI 3])) rfl rfl (hb hby d7_55) _ ?_
          refine XS.icmpYes X138.here hx rfl (pc0 := 56) (pc' := 87) rfl (hb hby d7_56) rfl (flt (by decide : ¬ ((3 : Int32) < (3 : Int32)))).2.1 (by decide) (by decide) ?_
          refine XS.aloadN X138.here hx rfl (hb hby d7_87) rfl rfl ?_
          refine st143 _ ?_
          refine XS.iload X143.here hx rfl (hb hby d7_91) rfl ?_
          refine XS.iload X143.here hx rfl (hb hby d7_93) rfl ?_
          refine st145 _ ?_
          refine XS.iload X145.here hx rfl (hb hby d7_96) rfl ?_
          refine XS.istoreN X145.here hx rfl (hb hby d7_98) rfl (l' := #[vR a1, vI 3, vI 0, vI 4, vI 0, vR s0, vI 2, vI 3]) rfl ?_
          refine XS.aloadN X145.here hx rfl (hb hby d7_99) rfl rfl ?_
          refine st147 _ ?_
          refine XS.iloadN X147.here hx rfl (hb hby d7_103) rfl ?_
          refine XS.aconstNull X147.here hx rfl (hb hby d7_104) ?_
          refine st151 _ ?_
          refine XS.aloadN X151.here hx rfl (hb hby d7_106) rfl rfl ?_
          refine st153 _ ?_
          refine XS.iloadN X153.here hx rfl (hb hby d7_110) rfl ?_
          refine XS.iconst X153.here hx rfl (hb hby d7_111) ?_
          refine st157 _ ?_
          refine XS.iinc X157.here hx rfl (hb hby d7_113) rfl (l' := #[vR a1, vI 3, vI 0, vI ((4 : Int32) + (1 : Int32)), vI 0, vR s0, vI 2, vI 3]) rfl ?_
          rw [(by decide : ((4 : Int32) + (1 : Int32)) = (5 : Int32))]
          refine XS.goto X157.here hx rfl (pc0 := 116) (pc' := 4) rfl (hb hby d7_116) (by decide) (by decide) ?_
          exact kt
        obtain ⟨s₂, o₂, hs₂, hr₂⟩ := own_t7_x (K_ := (3 : Int32)) (n1_ := (0 : Int32)) (IL := IL) (FL := FL) (x0_ := x0_) (x1_ := x1_) (x2_ := x2_) (x3_ := x3_) (w0_ := x0_) (w1_ := x2_) (w2_ := x2_) (w3_ := x3_) (y1_ := y1_) (y2_ := y2_) (y3_ := y3_) (z0_ := z0_) (z1_ := z1_) (z2_ := z2_) (z3_ := z3_) X157 hx hZ hw hby hml hown Bd.returns (by first | assumption | exact BodyLoose.notSynchronized (by assumption) | exact Body.notSynchronized (by assumption)) e157 K157 N157 Z0 fk158 fk159 fk160 fk161 fk162 fk163 fk164 fk165 fk166 fk167 fk168 V157 fk169 fk170 fk171 fk172 fk173 fk174 hpr1 hpr2 hpr3 hpr4 hpr5 hpr6 g_a1 g_bi g_bf g_bp g_bc g_bn g_s0 g_s1 g_s2 ne_a1_bi ne_a1_bf ne_a1_bp ne_a1_bc ne_a1_bn ne_a1_s0 ne_a1_s1 ne_a1_s2 ne_bi_bf ne_bi_bp ne_bi_bc ne_bi_bn ne_bi_s0 ne_bi_s1 ne_bi_s2 ne_bf_bp ne_bf_bc ne_bf_bn ne_bf_s0 ne_bf_s1 ne_bf_s2 ne_bp_bc ne_bp_bn ne_bp_s0 ne_bp_s1 ne_bp_s2 ne_bc_bn ne_bc_s0 ne_bc_s1 ne_bc_s2 ne_bn_s0 ne_bn_s1 ne_bn_s2 ne_s0_s1 ne_s0_s2 ne_s1_s2 (by decide) h_z0_ h_z1_ ⟨fun h => absurd hc58 h, fun _ => ⟨rfl, rfl⟩, fun h => absurd hc131 h⟩
        exact ⟨s₂, o₂, pre175 _ hs₂, hr₂⟩
      · exfalso; exact absurd hpat (by simp only [hc58, hc73, hc131, or_false, or_true, true_or, false_or, and_true, true_and, false_and, and_false, not_true_eq_false, not_false_eq_true])
  · obtain ⟨T176, X176, e176, st176⟩ := gF X50 hx hZ hown (ww hw 24 rfl) e50 fk49 (g := (mkF m 50 #[vR a1, vI 3, vI 1, vI 4, vI 0, vR s0, vI 0, vI 1] [iR a1, iI 1])) rfl rfl (hb hby d7_50)
    have hin177 := inb_of (j := (0 : Int32)) S51 ⟨by decide, by decide⟩
    have hin179 := inb_of (j := (1 : Int32)) S55 ⟨by decide, by decide⟩
    have pre182 : ∀ t, Steps p.tables e below (T176.setTop (mkF m 65 #[vR a1, vI 3, vI 1, vI 4, vI 0, vR s0, vI 0, vI 1] [iI 3, iI x1_])) t → Steps p.tables e below (s₁.setTop (entryFrame m #[(.ref a1), (.int (3 : Int32))] 8)) t := by
      intro t kt
      refine pre59 t ?_
      refine XS.icmpYes X50.here hx rfl (pc0 := 65) (pc' := 81) rfl (hb hby d7_65) rfl (flt hc58).2.1 (by decide) (by decide) ?_
      refine XS.iinc X50.here hx rfl (hb hby d7_81) rfl (l' := #[vR a1, vI 3, vI 1, vI 4, vI 0, vR s0, vI 0, vI ((0 : Int32) + (1 : Int32))]) rfl ?_
      rw [(by decide : ((0 : Int32) + (1 : Int32)) = (1 : Int32))]
      refine XS.goto X50.here hx rfl (pc0 := 84) (pc' := 47) rfl (hb hby d7_84) (by decide) (by decide) ?_
      refine XS.iload X50.here hx rfl (hb hby d7_47) rfl ?_
      refine XS.aloadN X50.here hx rfl (hb hby d7_49) rfl rfl ?_
      refine st176 _ ?_
      refine XS.iload X176.here hx rfl (hb hby d7_53) rfl ?_
      refine X176.iaload hx (j := (0 : Int32)) (v := (.int (3 : Int32))) (by rw [e176]; exact Ar51.1) (State.isArrayOf_alike hZ.alike Ar51.2.1) Ar51.2.2 hin177 (Has.at H51 hin177 rfl) (g := (mkF m 55 #[vR a1, vI 3, vI 1, vI 4, vI 0, vR s0, vI 0, vI 1] [iI 0, iR bn, iI 1])) rfl rfl (hb hby d7_55) _ ?_
      refine XS.icmpNo X176.here hx rfl (hb hby d7_56) rfl (tlt (by decide : (1 : Int32) < (3 : Int32))).2.1 ?_
      refine XS.aload X176.here hx rfl (hb hby d7_59) rfl rfl ?_
      refine XS.iload X176.here hx rfl (hb hby d7_61) rfl ?_
      refine X176.iaload hx (j := (1 : Int32)) (v := (.int x1_)) (by rw [e176]; exact Ar55.1) (State.isArrayOf_alike hZ.alike Ar55.2.1) Ar55.2.2 hin179 (Has.at H55 hin179 rfl) (g := (mkF m 63 #[vR a1, vI 3, vI 1, vI 4, vI 0, vR s0, vI 0, vI 1] [iI 1, iR s0])) rfl rfl (hb hby d7_63) _ ?_
      refine XS.iloadN X176.here hx rfl (hb hby d7_64) rfl ?_
      exact kt
    by_cases hc181 : x1_ < (3 : Int32)
    · have hin183 := inb_of (j := (1 : Int32)) S55 ⟨by decide, by decide⟩
      have hin185 := inb_of (j := (0 : Int32)) S55 ⟨by decide, by decide⟩
      obtain ⟨T186, h186, X186, e186, W186, st186⟩ := stI X176 hx hZ e176 Ar55 (j := (0 : Int32)) hin185 (g := (mkF m 80 #[vR a1, vI 3, vI 1, vI 4, vI 0, vR s0, vI 1, vI 1] [iI x1_, iI 0, iR s0])) rfl rfl (hb hby d7_80)
      have V186 : Arv Z h186 s0 q0 .int (4 : Int32) (own_bs [x1_, x1_, x2_, x3_]) (.int (0 : Int32)) := Arv.set Ar55 q55 S55 M55 H55 G55 rfl W186 0 rfl (Nat.le_of_ble_eq_true rfl)
      have K186 : Keep h0 h186 [a1, bc, bn, s0, s1, s2] := K34.wr W186 (Or.inl (List.mem_of_getElem? (i := 3) rfl))
      have N186 := Fr.snoc X186 N34 g_s0
      have fk187 := (fk49.other W186 (Or.inl ne_a1_s0))
      obtain ⟨T188, X188, e188, st188⟩ := gF X186 hx hZ hown (ww hw 24 rfl) e186 fk187 (g := (mkF m 50 #[vR a1, vI 3, vI 1, vI 4, vI 0, vR s0, vI 1, vI 2] [iR a1, iI 2])) rfl rfl (hb hby d7_50)
      have fk189 := (V34.other W186 ne_bn_s0)
      obtain ⟨cl190, Ar190, q190, S190, M190, H190, G190⟩ := id fk189
      have hin191 := inb_of (j := (0 : Int32)) S190 ⟨by decide, by decide⟩
      obtain ⟨cl193, Ar193, q193, S193, M193, H193, G193⟩ := id V186
      have hin194 := inb_of (j := (2 : Int32)) S193 ⟨by decide, by decide⟩
      have pre197 : ∀ t, Steps p.tables e below (T188.setTop (mkF m 65 #[vR a1, vI 3, vI 1, vI 4, vI 0, vR s0, vI 1, vI 2] [iI 3, iI x2_])) t → Steps p.tables e below (s₁.setTop (entryFrame m #[(.ref a1), (.int (3 : Int32))] 8)) t := by
        intro t kt
        refine pre182 t ?_
        refine XS.icmpNo X176.here hx rfl (hb hby d7_65) rfl (tlt hc181).2.1 ?_
        refine XS.aload X176.here hx rfl (hb hby d7_68) rfl rfl ?_
        refine XS.iload X176.here hx rfl (hb hby d7_70) rfl ?_
        refine XS.iinc X176.here hx rfl (hb hby d7_72) rfl (l' := #[vR a1, vI 3, vI 1, vI 4, vI 0, vR s0, vI ((0 : Int32) + (1 : Int32)), vI 1]) rfl ?_
        rw [(by decide : ((0 : Int32) + (1 : Int32)) = (1 : Int32))]
        refine XS.aload X176.here hx rfl (hb hby d7_75) rfl rfl ?_
        refine XS.iload X176.here hx rfl (hb hby d7_77) rfl ?_
        show SA T176 m 79 #[vR a1, vI 3, vI 1, vI 4, vI 0, vR s0, vI 1, vI 1] [iI 1, iR s0, iI 0, iR s0]
        refine X176.iaload hx (j := (1 : Int32)) (v := (.int x1_)) (by rw [e176]; exact Ar55.1) (State.isArrayOf_alike hZ.alike Ar55.2.1) Ar55.2.2 hin183 (Has.at H55 hin183 rfl) (g := (mkF m 79 #[vR a1, vI 3, vI 1, vI 4, vI 0, vR s0, vI 1, vI 1] [iI 1, iR s0, iI 0, iR s0])) rfl rfl (hb hby d7_79) _ ?_
        refine st186 _ ?_
        refine XS.iinc X186.here hx rfl (hb hby d7_81) rfl (l' := #[vR a1, vI 3, vI 1, vI 4, vI 0, vR s0, vI 1, vI ((1 : Int32) + (1 : Int32))]) rfl ?_
        rw [(by decide : ((1 : Int32) + (1 : Int32)) = (2 : Int32))]
        refine XS.goto X186.here hx rfl (pc0 := 84) (pc' := 47) rfl (hb hby d7_84) (by decide) (by decide) ?_
        refine XS.iload X186.here hx rfl (hb hby d7_47) rfl ?_
        refine XS.aloadN X186.here hx rfl (hb hby d7_49) rfl rfl ?_
        refine st188 _ ?_
        refine XS.iload X188.here hx rfl (hb hby d7_53) rfl ?_
        refine X188.iaload hx (j := (0 : Int32)) (v := (.int (3 : Int32))) (by rw [e188]; exact Ar190.1) (State.isArrayOf_alike hZ.alike Ar190.2.1) Ar190.2.2 hin191 (Has.at H190 hin191 rfl) (g := (mkF m 55 #[vR a1, vI 3, vI 1, vI 4, vI 0, vR s0, vI 1, vI 2] [iI 0, iR bn, iI 2])) rfl rfl (hb hby d7_55) _ ?_
        refine XS.icmpNo X188.here hx rfl (hb hby d7_56) rfl (tlt (by decide : (2 : Int32) < (3 : Int32))).2.1 ?_
        refine XS.aload X188.here hx rfl (hb hby d7_59) rfl rfl ?_
        refine XS.iload X188.here hx rfl (hb hby d7_61) rfl ?_
        refine X188.iaload hx (j := (2 : Int32)) (v := (.int x2_)) (by rw [e188]; exact Ar193.1) (State.isArrayOf_alike hZ.alike Ar193.2.1) Ar193.2.2 hin194 (Has.at H193 hin194 rfl) (g := (mkF m 63 #[vR a1, vI 3, vI 1, vI 4, vI 0, vR s0, vI 1, vI 2] [iI 2, iR s0])) rfl rfl (hb hby d7_63) _ ?_
        refine XS.iloadN X188.here hx rfl (hb hby d7_64) rfl ?_
        exact kt
      by_cases hc196 : x2_ < (3 : Int32)
      · have hin198 := inb_of (j := (2 : Int32)) S193 ⟨by decide, by decide⟩
        have hin200 := inb_of (j := (1 : Int32)) S193 ⟨by decide, by decide⟩
        obtain ⟨T201, h201, X201, e201, W201, st201⟩ := stI X188 hx hZ e188 Ar193 (j := (1 : Int32)) hin200 (g := (mkF m 80 #[vR a1, vI 3, vI 1, vI 4, vI 0, vR s0, vI 2, vI 2] [iI x2_, iI 1, iR s0])) rfl rfl (hb hby d7_80)
        have V201 : Arv Z h201 s0 q0 .int (4 : Int32) (own_bs [x1_, x2_, x2_, x3_]) (.int (0 : Int32)) := Arv.set Ar193 q193 S193 M193 H193 G193 rfl W201 1 rfl (Nat.le_of_ble_eq_true rfl)
        have K201 : Keep h0 h201 [a1, bc, bn, s0, s1, s2] := K186.wr W201 (Or.inl (List.mem_of_getElem? (i := 3) rfl))
        have N201 := Fr.snoc X201 N186 g_s0
        have fk202 := (fk187.other W201 (Or.inl ne_a1_s0))
        obtain ⟨T203, X203, e203, st203⟩ := gF X201 hx hZ hown (ww hw 24 rfl) e201 fk202 (g := (mkF m 50 #[vR a1, vI 3, vI 1, vI 4, vI 0, vR s0, vI 2, vI 3] [iR a1, iI 3])) rfl rfl (hb hby d7_50)
        have fk204 := (fk189.other W201 ne_bn_s0)
        obtain ⟨cl205, Ar205, q205, S205, M205, H205, G205⟩ := id fk204
        have hin206 := inb_of (j := (0 : Int32)) S205 ⟨by decide, by decide⟩
        obtain ⟨T208, X208, e208, st208⟩ := gF X203 hx hZ hown (ww hw 24 rfl) e203 fk202 (g := (mkF m 88 #[vR a1, vI 3, vI 1, vI 4, vI 0, vR s0, vI 2, vI 3] [iR a1])) rfl rfl (hb hby d7_88)
        have hin209 := inb_of (j := (0 : Int32)) S205 ⟨by decide, by decide⟩
        obtain ⟨T210, h210, X210, e210, W210, st210⟩ := stI X208 hx hZ e208 Ar205 (j := (0 : Int32)) hin209 (g := (mkF m 95 #[vR a1, vI 3, vI 1, vI 4, vI 0, vR s0, vI 2, vI 3] [iI 2, iI 0, iR bn])) rfl rfl (hb hby d7_95)
        have V210 : Arv Z h210 bn kn .int (16 : Int32) (own_bs [2, 0, 2, 0, 0, 0, 0, 0, 0, 0, 0, 0, 0, 0, 0, 0]) (.int (0 : Int32)) := Arv.set Ar205 q205 S205 M205 H205 G205 rfl W210 0 rfl (Nat.le_of_ble_eq_true rfl)
        have K210 : Keep h0 h210 [a1, bc, bn, s0, s1, s2] := K201.wr W210 (Or.inl (List.mem_of_getElem? (i := 2) rfl))
        have N210 := Fr.snoc X210 N201 g_bn
        have fk211 := (((fk43.other W186 (Or.inl ne_a1_s0)).other W201 (Or.inl ne_a1_s0)).other W210 (Or.inl ne_a1_bn))
        obtain ⟨T212, X212, e212, st212⟩ := gF X210 hx hZ hown (ww hw 22 rfl) e210 fk211 (g := (mkF m 100 #[vR a1, vI 3, vI 0, vI 4, vI 0, vR s0, vI 2, vI 3] [iR a1])) rfl rfl (hb hby d7_100)
        have fk213 := (((fk45.other W186 ne_bc_s0).other W201 ne_bc_s0).other W210 ne_bc_bn)
        obtain ⟨cl214, Ar214, q214, S214, M214, H214, G214⟩ := id fk213
        have hin215 := inb_of (j := (4 : Int32)) S214 ⟨by decide, by decide⟩
        obtain ⟨T216, h216, X216, e216, W216, st216⟩ := stR X212 hx hZ e212 Ar214 (j := (4 : Int32)) (v := .null) hin215 rfl (Or.inl rfl) (g := (mkF m 105 #[vR a1, vI 3, vI 0, vI 4, vI 0, vR s0, vI 2, vI 3] [.null, iI 4, iR bc])) rfl rfl (hb hby d7_105)
        have V216 : Arv Z h216 bc kc (.array .int) (16 : Int32) [(.ref s0), (.ref s1), (.ref s2), .null, .null, .null, .null, .null, .null, .null, .null, .null, .null, .null, .null, .null] .null := Arv.set Ar214 q214 S214 M214 H214 G214 rfl W216 4 rfl (Nat.le_of_ble_eq_true rfl)
        have K216 : Keep h0 h216 [a1, bc, bn, s0, s1, s2] := K210.wr W216 (Or.inl (List.mem_of_getElem? (i := 1) rfl))
        have N216 := Fr.snoc X216 N210 g_bc
        have fk217 := ((fk202.other W210 (Or.inl ne_a1_bn)).other W216 (Or.inl ne_a1_bc))
        obtain ⟨T218, X218, e218, st218⟩ := gF X216 hx hZ hown (ww hw 24 rfl) e216 fk217 (g := (mkF m 107 #[vR a1, vI 3, vI 0, vI 4, vI 0, vR s0, vI 2, vI 3] [iR a1])) rfl rfl (hb hby d7_107)
        have fk219 := (V210.other W216 (Ne.symm ne_bc_bn))
        obtain ⟨cl220, Ar220, q220, S220, M220, H220, G220⟩ := id fk219
        have hin221 := inb_of (j := (4 : Int32)) S220 ⟨by decide, by decide⟩
        obtain ⟨T222, h222, X222, e222, W222, st222⟩ := stI X218 hx hZ e218 Ar220 (j := (4 : Int32)) hin221 (g := (mkF m 112 #[vR a1, vI 3, vI 0, vI 4, vI 0, vR s0, vI 2, vI 3] [iI 0, iI 4, iR bn])) rfl rfl (hb hby d7_112)
        have V222 : Arv Z h222 bn kn .int (16 : Int32) (own_bs [2, 0, 2, 0, 0, 0, 0, 0, 0, 0, 0, 0, 0, 0, 0, 0]) (.int (0 : Int32)) := Arv.set Ar220 q220 S220 M220 H220 G220 rfl W222 4 rfl (Nat.le_of_ble_eq_true rfl)
        have K222 : Keep h0 h222 [a1, bc, bn, s0, s1, s2] := K216.wr W222 (Or.inl (List.mem_of_getElem? (i := 2) rfl))
        have N222 := Fr.snoc X222 N216 g_bn
        have fk223 := ((((((((E_a1.wr W22).wr W28).wr W34).wr W186).wr W201).wr W210).wr W216).wr W222)
        have fk224 := (((((fk35.other W186 (Or.inl ne_a1_s0)).other W201 (Or.inl ne_a1_s0)).other W210 (Or.inl ne_a1_bn)).other W216 (Or.inl ne_a1_bc)).other W222 (Or.inl ne_a1_bn))
        have fk225 := ((((((((F_items.other W22 (Or.inl ne_a1_bn)).other W28 (Or.inl ne_a1_bc)).other W34 (Or.inl ne_a1_bn)).other W186 (Or.inl ne_a1_s0)).other W201 (Or.inl ne_a1_s0)).other W210 (Or.inl ne_a1_bn)).other W216 (Or.inl ne_a1_bc)).other W222 (Or.inl ne_a1_bn))
        have fk226 := ((((((((V_bi.other W22 ne_bi_bn).other W28 ne_bi_bc).other W34 ne_bi_bn).other W186 ne_bi_s0).other W201 ne_bi_s0).other W210 ne_bi_bn).other W216 ne_bi_bc).other W222 ne_bi_bn)
        have fk227 := ((((((((F_sameEvents.other W22 (Or.inl ne_a1_bn)).other W28 (Or.inl ne_a1_bc)).other W34 (Or.inl ne_a1_bn)).other W186 (Or.inl ne_a1_s0)).other W201 (Or.inl ne_a1_s0)).other W210 (Or.inl ne_a1_bn)).other W216 (Or.inl ne_a1_bc)).other W222 (Or.inl ne_a1_bn))
        have fk228 := ((((((((V_bf.other W22 ne_bf_bn).other W28 ne_bf_bc).other W34 ne_bf_bn).other W186 ne_bf_s0).other W201 ne_bf_s0).other W210 ne_bf_bn).other W216 ne_bf_bc).other W222 ne_bf_bn)
        have fk229 := (((((fk37.other W186 (Or.inl ne_a1_s0)).other W201 (Or.inl ne_a1_s0)).other W210 (Or.inl ne_a1_bn)).other W216 (Or.inl ne_a1_bc)).other W222 (Or.inl ne_a1_bn))
        have fk230 := (((((fk39.other W186 ne_bp_s0).other W201 ne_bp_s0).other W210 ne_bp_bn).other W216 ne_bp_bc).other W222 ne_bp_bn)
        have fk231 := ((fk211.other W216 (Or.inl ne_a1_bc)).other W222 (Or.inl ne_a1_bn))
        have fk232 := (V216.other W222 ne_bc_bn)
        have fk233 := (fk217.other W222 (Or.inl ne_a1_bn))
        have fk234 := (((V201.other W210 (Ne.symm ne_bn_s0)).other W216 (Ne.symm ne_bc_s0)).other W222 (Ne.symm ne_bn_s0))
        have fk235 := ((((((((E_s0.wr W22).wr W28).wr W34).wr W186).wr W201).wr W210).wr W216).wr W222)
        have fk236 := ((((((((V_s1.other W22 (Ne.symm ne_bn_s1)).other W28 (Ne.symm ne_bc_s1)).other W34 (Ne.symm ne_bn_s1)).other W186 (Ne.symm ne_s0_s1)).other W201 (Ne.symm ne_s0_s1)).other W210 (Ne.symm ne_bn_s1)).other W216 (Ne.symm ne_bc_s1)).other W222 (Ne.symm ne_bn_s1))
        have fk237 := ((((((((E_s1.wr W22).wr W28).wr W34).wr W186).wr W201).wr W210).wr W216).wr W222)
        have fk238 := ((((((((V_s2.other W22 (Ne.symm ne_bn_s2)).other W28 (Ne.symm ne_bc_s2)).other W34 (Ne.symm ne_bn_s2)).other W186 (Ne.symm ne_s0_s2)).other W201 (Ne.symm ne_s0_s2)).other W210 (Ne.symm ne_bn_s2)).other W216 (Ne.symm ne_bc_s2)).other W222 (Ne.symm ne_bn_s2))
        have fk239 := ((((((((E_s2.wr W22).wr W28).wr W34).wr W186).wr W201).wr W210).wr W216).wr W222)
        have pre240 : ∀ t, Steps p.tables e below (T222.setTop (mkF m 4 #[vR a1, vI 3, vI 0, vI 5, vI 0, vR s0, vI 2, vI 3] [])) t → Steps p.tables e below (s₁.setTop (entryFrame m #[(.ref a1), (.int (3 : Int32))] 8)) t := by
          intro t kt
          refine pre197 t ?_
          refine XS.icmpNo X188.here hx rfl (hb hby d7_65) rfl (tlt hc196).2.1 ?_
          refine XS.aload X188.here hx rfl (hb hby d7_68) rfl rfl ?_
          refine XS.iload X188.here hx rfl (hb hby d7_70) rfl ?_
          refine XS.iinc X188.here hx rfl (hb hby d7_72) rfl (l' := #[vR a1, vI 3, vI 1, vI 4, vI 0, vR s0, vI ((1 : Int32) + (1 : Int32)), vI 2]) rfl ?_
          rw [(by decide : ((1 : Int32) + (1 : Int32)) = (2 : Int32))]
          refine XS.aload X188.here hx rfl (hb hby d7_75) rfl rfl ?_
          refine XS.iload X188.here hx rfl (hb hby d7_77) rfl ?_
          show SA T188 m 79 #[vR a1, vI 3, vI 1, vI 4, vI 0, vR s0, vI 2, vI 2] [iI 2, iR s0, iI 1, iR s0]
          refine X188.iaload hx (j := (2 : Int32)) (v := (.int x2_)) (by rw [e188]; exact Ar193.1) (State.isArrayOf_alike hZ.alike Ar193.2.1) Ar193.2.2 hin198 (Has.at H193 hin198 rfl) (g := (mkF m 79 #[vR a1, vI 3, vI 1, vI 4, vI 0, vR s0, vI 2, vI 2] [iI 2, iR s0, iI 1, iR s0])) rfl rfl (hb hby d7_79) _ ?_
          refine st201 _ ?_
          refine XS.iinc X201.here hx rfl (hb hby d7_81) rfl (l' := #[vR a1, vI 3, vI 1, vI 4, vI 0, vR s0, vI 2, vI ((2 : Int32) + (1 : Int32))]) rfl ?_
          rw [(by decide : ((2 : Int32) + (1 : Int32)) = (3 : Int32))]
          refine XS.goto X201.here hx rfl (pc0 := 84) (pc' := 47) rfl (hb hby d7_84) (by decide) (by decide) ?_
          refine XS.iload X201.here hx rfl (hb hby d7_47) rfl ?_
          refine XS.aloadN X201.here hx rfl (hb hby d7_49) rfl rfl ?_
          refine st203 _ ?_
          refine XS.iload X203.here hx rfl (hb hby d7_53) rfl ?_
          refine X203.iaload hx (j := (0 : Int32)) (v := (.int (3 : Int32))) (by rw [e203]; exact Ar205.1) (State.isArrayOf_alike hZ.alike Ar205.2.1) Ar205.2.2 hin206 (Has.at H205 hin206 rfl) (g := (mkF m 55 #[vR a1, vI 3, vI 1, vI 4, vI 0, vR s0, vI 2, vI 3] [iI 0, iR bn, iI 3])) rfl rfl (hb hby d7_55) _ ?_
          refine XS.icmpYes X203.here hx rfl (pc0 := 56) (pc' := 87) rfl (hb hby d7_56) rfl (flt (by decide : ¬ ((3 : Int32) < (3 : Int32)))).2.1 (by decide) (by decide) ?_
          refine XS.aloadN X203.here hx rfl (hb hby d7_87) rfl rfl ?_
          refine st208 _ ?_
          refine XS.iload X208.here hx rfl (hb hby d7_91) rfl ?_
          refine XS.iload X208.here hx rfl (hb hby d7_93) rfl ?_
          refine st210 _ ?_
          refine XS.iload X210.here hx rfl (hb hby d7_96) rfl ?_
          refine XS.istoreN X210.here hx rfl (hb hby d7_98) rfl (l' := #[vR a1, vI 3, vI 0, vI 4, vI 0, vR s0, vI 2, vI 3]) rfl ?_
          refine XS.aloadN X210.here hx rfl (hb hby d7_99) rfl rfl ?_
          refine st212 _ ?_
          refine XS.iloadN X212.here hx rfl (hb hby d7_103) rfl ?_
          refine XS.aconstNull X212.here hx rfl (hb hby d7_104) ?_
          refine st216 _ ?_
          refine XS.aloadN X216.here hx rfl (hb hby d7_106) rfl rfl ?_
          refine st218 _ ?_
          refine XS.iloadN X218.here hx rfl (hb hby d7_110) rfl ?_
          refine XS.iconst X218.here hx rfl (hb hby d7_111) ?_
          refine st222 _ ?_
          refine XS.iinc X222.here hx rfl (hb hby d7_113) rfl (l' := #[vR a1, vI 3, vI 0, vI ((4 : Int32) + (1 : Int32)), vI 0, vR s0, vI 2, vI 3]) rfl ?_
          rw [(by decide : ((4 : Int32) + (1 : Int32)) = (5 : Int32))]
          refine XS.goto X222.here hx rfl (pc0 := 116) (pc' := 4) rfl (hb hby d7_116) (by decide) (by decide) ?_
          exact kt
        obtain ⟨s₂, o₂, hs₂, hr₂⟩ := own_t7_x (K_ := (3 : Int32)) (n1_ := (0 : Int32)) (IL := IL) (FL := FL) (x0_ := x0_) (x1_ := x1_) (x2_ := x2_) (x3_ := x3_) (w0_ := x1_) (w1_ := x2_) (w2_ := x2_) (w3_ := x3_) (y1_ := y1_) (y2_ := y2_) (y3_ := y3_) (z0_ := z0_) (z1_ := z1_) (z2_ := z2_) (z3_ := z3_) X222 hx hZ hw hby hml hown Bd.returns (by first | assumption | exact BodyLoose.notSynchronized (by assumption) | exact Body.notSynchronized (by assumption)) e222 K222 N222 Z0 fk223 fk224 fk225 fk226 fk227 fk228 fk229 fk230 fk231 fk232 fk233 V222 fk234 fk235 fk236 fk237 fk238 fk239 hpr1 hpr2 hpr3 hpr4 hpr5 hpr6 g_a1 g_bi g_bf g_bp g_bc g_bn g_s0 g_s1 g_s2 ne_a1_bi ne_a1_bf ne_a1_bp ne_a1_bc ne_a1_bn ne_a1_s0 ne_a1_s1 ne_a1_s2 ne_bi_bf ne_bi_bp ne_bi_bc ne_bi_bn ne_bi_s0 ne_bi_s1 ne_bi_s2 ne_bf_bp ne_bf_bc ne_bf_bn ne_bf_s0 ne_bf_s1 ne_bf_s2 ne_bp_bc ne_bp_bn ne_bp_s0 ne_bp_s1 ne_bp_s2 ne_bc_bn ne_bc_s0 ne_bc_s1 ne_bc_s2 ne_bn_s0 ne_bn_s1 ne_bn_s2 ne_s0_s1 ne_s0_s2 ne_s1_s2 (by decide) h_z0_ h_z1_ ⟨fun _ => ⟨rfl, rfl⟩, fun h => absurd hc181 h, fun h => absurd hc196 h⟩
        exact ⟨s₂, o₂, pre240 _ hs₂, hr₂⟩
      · exfalso; exact absurd hpat (by simp only [hc58, hc181, hc196, or_false, or_true, true_or, false_or, and_true, true_and, false_and, and_false, not_true_eq_false, not_false_eq_true])
    · exfalso; exact absurd hpat (by simp only [hc58, hc181, or_false, or_true, true_or, false_or, and_true, true_and, false_and, and_false, not_true_eq_false, not_false_eq_true])
theorem ef_7_4 (m : MethodId) (x0 : Addr) : entryFrame m #[(.ref x0), (.int (4 : Int32))] 8 = mkF m 0 #[.val (.ref x0), .val (.int (4 : Int32)), .unset, .unset, .unset, .unset, .unset, .unset] [] := by first | (simp [entryFrame, mkF, argsToLocals, Value.category]; done) | rfl
def Q7_4 (Z : State) (a1 : Addr) (bi bf bp bc bn : Addr) (ki kf kp kc kn : ClassId) (IL FL PL : List Int32) (s0 s1 s2 : Addr) (q0 q1 q2 : ClassId) (x0_ x1_ x2_ x3_ y1_ y2_ y3_ z0_ z1_ z2_ z3_ : Int32) (h0 : Heap) (n0 : Nat) (v : Option Value) (h : Heap) (L : List Loc) : Prop := own_QT34 Z a1 bi bf bp bc bn ki kf kp kc kn IL FL PL s0 s1 s2 q0 q1 q2 x0_ x1_ x2_ x3_ y1_ y2_ y3_ z0_ z1_ z2_ z3_ h0 n0 (4 : Int32) (1 : Int32) v h L
theorem rm7_4 (l : Launch) (Z : State) (a0 : Array Value) (hw : ∀ d ∈ tables_1, d.before a0 Z = true) (ws : List Jvm.Cond) (a1 : Addr) (bi bf bp bc bn : Addr) (ki kf kp kc kn : ClassId) (IL FL PL : List Int32) (s0 s1 s2 : Addr) (q0 q1 q2 : ClassId) (x0_ x1_ x2_ x3_ y1_ y2_ y3_ z0_ z1_ z2_ z3_ : Int32) (h0 : Heap) (n0 : Nat) (Z0 : n0 ≤ h0.size) (E_a1 : Exa Z h0 a1 "com/example/tidemine/tidemine/PatternTrie") (F_size : Fld Z h0 a1 "com/example/tidemine/tidemine/PatternTrie" "size" "I" (.int (7 : Int32))) (F_items : Fld Z h0 a1 "com/example/tidemine/tidemine/PatternTrie" "items" "[I" (.ref bi)) (V_bi : Arv Z h0 bi ki .int (16 : Int32) (own_bs IL) (.int (0 : Int32))) (F_sameEvents : Fld Z h0 a1 "com/example/tidemine/tidemine/PatternTrie" "sameEvents" "[Z" (.ref bf)) (V_bf : Arv Z h0 bf kf .boolean (16 : Int32) (own_bs FL) (.int (0 : Int32))) (F_parents : Fld Z h0 a1 "com/example/tidemine/tidemine/PatternTrie" "parents" "[I" (.ref bp)) (V_bp : Arv Z h0 bp kp .int (16 : Int32) (own_bs PL) (.int (0 : Int32))) (F_children : Fld Z h0 a1 "com/example/tidemine/tidemine/PatternTrie" "children" "[[I" (.ref bc)) (V_bc : Arv Z h0 bc kc (.array .int) (16 : Int32) [(.ref s0), (.ref s1), (.ref s2), .null, .null, .null, .null, .null, .null, .null, .null, .null, .null, .null, .null, .null] .null) (F_childCounts : Fld Z h0 a1 "com/example/tidemine/tidemine/PatternTrie" "childCounts" "[I" (.ref bn)) (V_bn : Arv Z h0 bn kn .int (16 : Int32) (own_bs [3, 1, 2, 0, 0, 0, 0, 0, 0, 0, 0, 0, 0, 0, 0, 0]) (.int (0 : Int32))) (V_s0 : Arv Z h0 s0 q0 .int (4 : Int32) (own_bs [x0_, x1_, x2_, x3_]) (.int (0 : Int32))) (E_s0 : Exa Z h0 s0 "[I") (V_s1 : Arv Z h0 s1 q1 .int (4 : Int32) (own_bs [3, y1_, y2_, y3_]) (.int (0 : Int32))) (E_s1 : Exa Z h0 s1 "[I") (V_s2 : Arv Z h0 s2 q2 .int (4 : Int32) (own_bs [z0_, z1_, z2_, z3_]) (.int (0 : Int32))) (E_s2 : Exa Z h0 s2 "[I") (hpr1 : PL.getD 1 0 = (0 : Int32)) (hpr2 : PL.getD 2 0 = (0 : Int32)) (hpr3 : PL.getD 3 0 = (1 : Int32)) (hpr4 : PL.getD 4 0 = (0 : Int32)) (hpr5 : PL.getD 5 0 = (2 : Int32)) (hpr6 : PL.getD 6 0 = (2 : Int32)) (g_a1 : n0 ≤ a1) (g_bi : n0 ≤ bi) (g_bf : n0 ≤ bf) (g_bp : n0 ≤ bp) (g_bc : n0 ≤ bc) (g_bn : n0 ≤ bn) (g_s0 : n0 ≤ s0) (g_s1 : n0 ≤ s1) (g_s2 : n0 ≤ s2) (ne_a1_bi : a1 ≠ bi) (ne_a1_bf : a1 ≠ bf) (ne_a1_bp : a1 ≠ bp) (ne_a1_bc : a1 ≠ bc) (ne_a1_bn : a1 ≠ bn) (ne_a1_s0 : a1 ≠ s0) (ne_a1_s1 : a1 ≠ s1) (ne_a1_s2 : a1 ≠ s2) (ne_bi_bf : bi ≠ bf) (ne_bi_bp : bi ≠ bp) (ne_bi_bc : bi ≠ bc) (ne_bi_bn : bi ≠ bn) (ne_bi_s0 : bi ≠ s0) (ne_bi_s1 : bi ≠ s1) (ne_bi_s2 : bi ≠ s2) (ne_bf_bp : bf ≠ bp) (ne_bf_bc : bf ≠ bc) (ne_bf_bn : bf ≠ bn) (ne_bf_s0 : bf ≠ s0) (ne_bf_s1 : bf ≠ s1) (ne_bf_s2 : bf ≠ s2) (ne_bp_bc : bp ≠ bc) (ne_bp_bn : bp ≠ bn) (ne_bp_s0 : bp ≠ s0) (ne_bp_s1 : bp ≠ s1) (ne_bp_s2 : bp ≠ s2) (ne_bc_bn : bc ≠ bn) (ne_bc_s0 : bc ≠ s0) (ne_bc_s1 : bc ≠ s1) (ne_bc_s2 : bc ≠ s2) (ne_bn_s0 : bn ≠ s0) (ne_bn_s1 : bn ≠ s1) (ne_bn_s2 : bn ≠ s2) (ne_s0_s1 : s0 ≠ s1) (ne_s0_s2 : s0 ≠ s2) (ne_s1_s2 : s1 ≠ s2) (h_z0_ : ¬ (z0_ < (4 : Int32))) (h_z1_ : ¬ (z1_ < (4 : Int32))) (hpat : (¬ x0_ < (4 : Int32) ∧ x1_ < (4 : Int32) ∧ x2_ < (4 : Int32)) ∨ (x0_ < (4 : Int32) ∧ ¬ x1_ < (4 : Int32) ∧ x2_ < (4 : Int32)) ∨ (x0_ < (4 : Int32) ∧ x1_ < (4 : Int32) ∧ ¬ x2_ < (4 : Int32))) :
    MetFree l mn_4 (head1 (Jvm.Cond.code mn_4 prog_23_method_4_code 8 none :: ws) ({ frames := 0, cells := 0, slots := 0, locals := 0 } : Room)) (fun a U => a = #[(.ref a1), (.int (4 : Int32))] ∧ Z.Warmed39 U.vm ∧ U.heap = h0) (fun _ _ _ _ _ => True) (fun _ U o U' => ∃ v L, o = .returned v ∧ Q7_4 Z a1 bi bf bp bc bn ki kf kp kc kn IL FL PL s0 s1 s2 q0 q1 q2 x0_ x1_ x2_ x3_ y1_ y2_ y3_ z0_ z1_ z2_ z3_ h0 n0 v U'.heap L ∧ FrameEnd U o U' L ({ frames := 0, cells := 0, slots := 0, locals := 0 } : Room).cells ({ frames := 0, cells := 0, slots := 0, locals := 0 } : Room).slots) := by
  refine MetFree.of_bodySF (plainFor_of_name pn_2) hisR ?_
  intro p e s m args below meth c s₁ Bd hml0 hP hK
  obtain ⟨rfl, hZ, hh⟩ := hP
  have hx := Bd.exec
  have hby := Bd.bytes
  have hml : c.maxLocals = 8 := hml0
  have hown : s.vm.findClass "com/example/tidemine/tidemine/PatternTrie" = some m.cls := findClass_of_methodNamed Bd.named
  have hnm := (name_of_methodNamed Bd.named Bd.method).1
  have X0 : Stand p l e ({ frames := 0, cells := 0, slots := 0, locals := 0 } : Room) s m #[(.ref a1), (.int (4 : Int32))] below meth c s₁ [] 0 0 := Stand.of_body Bd
  have e0 : s₁.heap = h0 := by rw [← hh, Bd.state]; rfl
  have N0 := Fr.nil n0
  have K0 := Keep.refl h0 [a1, bc, bn, s0, s1, s2]
  have pre0 : ∀ t, Steps p.tables e below (s₁.setTop (mkF m 0 #[.val (.ref a1), .val (.int (4 : Int32)), .unset, .unset, .unset, .unset, .unset, .unset] [])) t → Steps p.tables e below (s₁.setTop (entryFrame m #[(.ref a1), (.int (4 : Int32))] 8)) t := fun t k => castTop (ef_7_4 m a1) k
  obtain ⟨T1, X1, e1, st1⟩ := gF X0 hx hZ hown (ww hw 10 rfl) e0 F_size (g := (mkF m 6 #[vR a1, vI 4, vI (-1), vI 4, .unset, .unset, .unset, .unset] [iR a1, iI 4])) rfl rfl (hb hby d7_6)
  obtain ⟨T2, X2, e2, st2⟩ := gF X1 hx hZ hown (ww hw 18 rfl) e1 F_parents (g := (mkF m 13 #[vR a1, vI 4, vI (-1), vI 4, .unset, .unset, .unset, .unset] [iR a1])) rfl rfl (hb hby d7_13)
  obtain ⟨cl3, Ar3, q3, S3, M3, H3, G3⟩ := id V_bp
  have hin4 := inb_of (j := (4 : Int32)) S3 ⟨by decide, by decide⟩
  have hat5 : cl3.slots[((4 : Int32)).toNatClampNeg]? = some (.int (0 : Int32)) := Has.at H3 hin4 (by rw [own_bsget]; exact congrArg Value.int hpr4)
  obtain ⟨T6, X6, e6, st6⟩ := gF X2 hx hZ hown (ww hw 22 rfl) e2 F_children (g := (mkF m 33 #[vR a1, vI 4, vI (-1), vI 4, vI 0, .unset, .unset, .unset] [iR a1])) rfl rfl (hb hby d7_33)
  obtain ⟨cl7, Ar7, q7, S7, M7, H7, G7⟩ := id V_bc
  have hin8 := inb_of (j := (0 : Int32)) S7 ⟨by decide, by decide⟩
  obtain ⟨T10, X10, e10, st10⟩ := gF X6 hx hZ hown (ww hw 24 rfl) e6 F_childCounts (g := (mkF m 50 #[vR a1, vI 4, vI (-1), vI 4, vI 0, vR s0, vI 0, vI 0] [iR a1, iI 0])) rfl rfl (hb hby d7_50)
  obtain ⟨cl11, Ar11, q11, S11, M11, H11, G11⟩ := id V_bn
  have hin12 := inb_of (j := (0 : Int32)) S11 ⟨by decide, by decide⟩
  obtain ⟨cl14, Ar14, q14, S14, M14, H14, G14⟩ := id V_s0
  have hin15 := inb_of (j := (0 : Int32)) S14 ⟨by decide, by decide⟩
  have pre18 : ∀ t, Steps p.tables e below (T10.setTop (mkF m 65 #[vR a1, vI 4, vI (-1), vI 4, vI 0, vR s0, vI 0, vI 0] [iI 4, iI x0_])) t → Steps p.tables e below (s₁.setTop (entryFrame m #[(.ref a1), (.int (4 : Int32))] 8)) t := by
    intro t kt
    refine pre0 t ?_
    refine XS.iconst X0.here hx rfl (hb hby d7_0) ?_
    refine XS.istoreN X0.here hx rfl (hb hby d7_1) rfl (l' := #[vR a1, vI 4, vI (-1), .unset, .unset, .unset, .unset, .unset]) rfl ?_
    refine XS.iloadN X0.here hx rfl (hb hby d7_2) rfl ?_
    refine XS.istoreN X0.here hx rfl (hb hby d7_3) rfl (l' := #[vR a1, vI 4, vI (-1), vI 4, .unset, .unset, .unset, .unset]) rfl ?_
    refine XS.iloadN X0.here hx rfl (hb hby d7_4) rfl ?_
    refine XS.aloadN X0.here hx rfl (hb hby d7_5) rfl rfl ?_
    show SA s₁ m 6 #[vR a1, vI 4, vI (-1), vI 4, .unset, .unset, .unset, .unset] [iR a1, iI 4]
    refine st1 _ ?_
    refine XS.icmpNo X1.here hx rfl (hb hby d7_9) rfl (tlt (by decide : (4 : Int32) < (7 : Int32))).2.1 ?_
    refine XS.aloadN X1.here hx rfl (hb hby d7_12) rfl rfl ?_
    refine st2 _ ?_
    refine XS.iloadN X2.here hx rfl (hb hby d7_16) rfl ?_
    refine X2.iaload hx (j := (4 : Int32)) (v := (.int (0 : Int32))) (by rw [e2]; exact Ar3.1) (State.isArrayOf_alike hZ.alike Ar3.2.1) Ar3.2.2 hin4 hat5 (g := (mkF m 17 #[vR a1, vI 4, vI (-1), vI 4, .unset, .unset, .unset, .unset] [iI 4, iR bp])) rfl rfl (hb hby d7_17) _ ?_
    refine XS.istore X2.here hx rfl (hb hby d7_18) rfl (l' := #[vR a1, vI 4, vI (-1), vI 4, vI 0, .unset, .unset, .unset]) rfl ?_
    refine XS.iload X2.here hx rfl (hb hby d7_20) rfl ?_
    refine XS.iloadN X2.here hx rfl (hb hby d7_22) rfl ?_
    refine XS.icmpNo X2.here hx rfl (hb hby d7_23) rfl (tlt (by decide : (0 : Int32) < (4 : Int32))).2.1 ?_
    refine XS.iload X2.here hx rfl (hb hby d7_26) rfl ?_
    refine XS.iloadN X2.here hx rfl (hb hby d7_28) rfl ?_
    refine XS.icmpNo X2.here hx rfl (hb hby d7_29) rfl (feq (by decide : ¬ ((0 : Int32) = (-1 : Int32)))).1 ?_
    refine XS.aloadN X2.here hx rfl (hb hby d7_32) rfl rfl ?_
    show SA T2 m 33 #[vR a1, vI 4, vI (-1), vI 4, vI 0, .unset, .unset, .unset] [iR a1]
    refine st6 _ ?_
    refine XS.iload X6.here hx rfl (hb hby d7_36) rfl ?_
    refine X6.aaload hx (j := (0 : Int32)) (v := (.ref s0)) (by rw [e6]; exact Ar7.1) (State.isArrayOf_alike hZ.alike Ar7.2.1) rfl Ar7.2.2 hin8 (Has.at H7 hin8 rfl) (g := (mkF m 38 #[vR a1, vI 4, vI (-1), vI 4, vI 0, .unset, .unset, .unset] [iI 0, iR bc])) rfl rfl (hb hby d7_38) _ ?_
    refine XS.astore X6.here hx rfl (hb hby d7_39) rfl rfl (l' := #[vR a1, vI 4, vI (-1), vI 4, vI 0, vR s0, .unset, .unset]) rfl ?_
    refine XS.iconst X6.here hx rfl (hb hby d7_41) ?_
    refine XS.istore X6.here hx rfl (hb hby d7_42) rfl (l' := #[vR a1, vI 4, vI (-1), vI 4, vI 0, vR s0, vI 0, .unset]) rfl ?_
    refine XS.iconst X6.here hx rfl (hb hby d7_44) ?_
    refine XS.istore X6.here hx rfl (hb hby d7_45) rfl (l' := #[vR a1, vI 4, vI (-1), vI 4, vI 0, vR s0, vI 0, vI 0]) rfl ?_
    refine XS.iload X6.here hx rfl (hb hby d7_47) rfl ?_
    refine XS.aloadN X6.here hx rfl (hb hby d7_49) rfl rfl ?_
    refine st10 _ ?_
    refine XS.iload X10.here hx rfl (hb hby d7_53) rfl ?_
    refine X10.iaload hx (j := (0 : Int32)) (v := (.int (3 : Int32))) (by rw [e10]; exact Ar11.1) (State.isArrayOf_alike hZ.alike Ar11.2.1) Ar11.2.2 hin12 (Has.at H11 hin12 rfl) (g := (mkF m 55 #[vR a1, vI 4, vI (-1), vI 4, vI 0, vR s0, vI 0, vI 0] [iI 0, iR bn, iI 0])) rfl rfl (hb hby d7_55) _ ?_
    refine XS.icmpNo X10.here hx rfl (hb hby d7_56) rfl (tlt (by decide : (0 : Int32) < (3 : Int32))).2.1 ?_
    refine XS.aload X10.here hx rfl (hb hby d7_59) rfl rfl ?_
    refine XS.iload X10.here hx rfl (hb hby d7_61) rfl ?_
    refine X10.iaload hx (j := (0 : Int32)) (v := (.int x0_)) (by rw [e10]; exact Ar14.1) (State.isArrayOf_alike hZ.alike Ar14.2.1) Ar14.2.2 hin15 (Has.at H14 hin15 rfl) (g := (mkF m 63 #[vR a1, vI 4, vI (-1), vI 4, vI 0, vR s0, vI 0, vI 0] [iI 0, iR s0])) rfl rfl (hb hby d7_63) _ ?_
    refine XS.iloadN X10.here hx rfl (hb hby d7_64) rfl ?_
    exact kt
  by_cases hc17 : x0_ < (4 : Int32)
  · have hin19 := inb_of (j := (0 : Int32)) S14 ⟨by decide, by decide⟩
    have hin21 := inb_of (j := (0 : Int32)) S14 ⟨by decide, by decide⟩
    obtain ⟨T22, h22, X22, e22, W22, st22⟩ := stI X10 hx hZ e10 Ar14 (j := (0 : Int32)) hin21 (g := (mkF m 80 #[vR a1, vI 4, vI (-1), vI 4, vI 0, vR s0, vI 1, vI 0] [iI x0_, iI 0, iR s0])) rfl rfl (hb hby d7_80)
    have V22 : Arv Z h22 s0 q0 .int (4 : Int32) (own_bs [x0_, x1_, x2_, x3_]) (.int (0 : Int32)) := Arv.set Ar14 q14 S14 M14 H14 G14 rfl W22 0 rfl (Nat.le_of_ble_eq_true rfl)
    have K22 : Keep h0 h22 [a1, bc, bn, s0, s1, s2] := K0.wr W22 (Or.inl (List.mem_of_getElem? (i := 3) rfl))
    have N22 := Fr.snoc X22 N0 g_s0
    have fk23 := (F_childCounts.other W22 (Or.inl ne_a1_s0))
    obtain ⟨T24, X24, e24, st24⟩ := gF X22 hx hZ hown (ww hw 24 rfl) e22 fk23 (g := (mkF m 50 #[vR a1, vI 4, vI (-1), vI 4, vI 0, vR s0, vI 1, vI 1] [iR a1, iI 1])) rfl rfl (hb hby d7_50)
    have fk25 := (V_bn.other W22 ne_bn_s0)
    obtain ⟨cl26, Ar26, q26, S26, M26, H26, G26⟩ := id fk25
    have hin27 := inb_of (j := (0 : Int32)) S26 ⟨by decide, by decide⟩
    obtain ⟨cl29, Ar29, q29, S29, M29, H29, G29⟩ := id V22
    have hin30 := inb_of (j := (1 : Int32)) S29 ⟨by decide, by decide⟩
    have pre33 : ∀ t, Steps p.tables e below (T24.setTop (mkF m 65 #[vR a1, vI 4, vI (-1), vI 4, vI 0, vR s0, vI 1, vI 1] [iI 4, iI x1_])) t → Steps p.tables e below (s₁.setTop (entryFrame m #[(.ref a1), (.int (4 : Int32))] 8)) t := by
      intro t kt
      refine pre18 t ?_
      refine XS.icmpNo X10.here hx rfl (hb hby d7_65) rfl (tlt hc17).2.1 ?_
      refine XS.aload X10.here hx rfl (hb hby d7_68) rfl rfl ?_
      refine XS.iload X10.here hx rfl (hb hby d7_70) rfl ?_
      refine XS.iinc X10.here hx rfl (hb hby d7_72) rfl (l' := #[vR a1, vI 4, vI (-1), vI 4, vI 0, vR s0, vI ((0 : Int32) + (1 : Int32)), vI 0]) rfl ?_
      rw [(by decide : ((0 : Int32) + (1 : Int32)) = (1 : Int32))]
      refine XS.aload X10.here hx rfl (hb hby d7_75) rfl rfl ?_
      refine XS.iload X10.here hx rfl (hb hby d7_77) rfl ?_
      show SA T10 m 79 #[vR a1, vI 4, vI (-1), vI 4, vI 0, vR s0, vI 1, vI 0] [iI 0, iR s0, iI 0, iR s0]
      refine X10.iaload hx (j := (0 : Int32)) (v := (.int x0_)) (by rw [e10]; exact Ar14.1) (State.isArrayOf_alike hZ.alike Ar14.2.1) Ar14.2.2 hin19 (Has.at H14 hin19 rfl) (g := (mkF m 79 #[vR a1, vI 4, vI (-1), vI 4, vI 0, vR s0, vI 1, vI 0] [iI 0, iR s0, iI 0, iR s0])) rfl rfl (hb hby d7_79) _ ?_
      refine st22 _ ?_
      refine XS.iinc X22.here hx rfl (hb hby d7_81) rfl (l' := #[vR a1, vI 4, vI (-1), vI 4, vI 0, vR s0, vI 1, vI ((0 : Int32) + (1 : Int32))]) rfl ?_
      rw [(by decide : ((0 : Int32) + (1 : Int32)) = (1 : Int32))]
      refine XS.goto X22.here hx rfl (pc0 := 84) (pc' := 47) rfl (hb hby d7_84) (by decide) (by decide) ?_
      refine XS.iload X22.here hx rfl (hb hby d7_47) rfl ?_
      refine XS.aloadN X22.here hx rfl (hb hby d7_49) rfl rfl ?_
      refine st24 _ ?_
      refine XS.iload X24.here hx rfl (hb hby d7_53) rfl ?_
      refine X24.iaload hx (j := (0 : Int32)) (v := (.int (3 : Int32))) (by rw [e24]; exact Ar26.1) (State.isArrayOf_alike hZ.alike Ar26.2.1) Ar26.2.2 hin27 (Has.at H26 hin27 rfl) (g := (mkF m 55 #[vR a1, vI 4, vI (-1), vI 4, vI 0, vR s0, vI 1, vI 1] [iI 0, iR bn, iI 1])) rfl rfl (hb hby d7_55) _ ?_
      refine XS.icmpNo X24.here hx rfl (hb hby d7_56) rfl (tlt (by decide : (1 : Int32) < (3 : Int32))).2.1 ?_
      refine XS.aload X24.here hx rfl (hb hby d7_59) rfl rfl ?_
      refine XS.iload X24.here hx rfl (hb hby d7_61) rfl ?_
      refine X24.iaload hx (j := (1 : Int32)) (v := (.int x1_)) (by rw [e24]; exact Ar29.1) (State.isArrayOf_alike hZ.alike Ar29.2.1) Ar29.2.2 hin30 (Has.at H29 hin30 rfl) (g := (mkF m 63 #[vR a1, vI 4, vI (-1), vI 4, vI 0, vR s0, vI 1, vI 1] [iI 1, iR s0])) rfl rfl (hb hby d7_63) _ ?_
      refine XS.iloadN X24.here hx rfl (hb hby d7_64) rfl ?_
      exact kt
    by_cases hc32 : x1_ < (4 : Int32)
    · have hin34 := inb_of (j := (1 : Int32)) S29 ⟨by decide, by decide⟩
      have hin36 := inb_of (j := (1 : Int32)) S29 ⟨by decide, by decide⟩
      obtain ⟨T37, h37, X37, e37, W37, st37⟩ := stI X24 hx hZ e24 Ar29 (j := (1 : Int32)) hin36 (g := (mkF m 80 #[vR a1, vI 4, vI (-1), vI 4, vI 0, vR s0, vI 2, vI 1] [iI x1_, iI 1, iR s0])) rfl rfl (hb hby d7_80)
      have V37 : Arv Z h37 s0 q0 .int (4 : Int32) (own_bs [x0_, x1_, x2_, x3_]) (.int (0 : Int32)) := Arv.set Ar29 q29 S29 M29 H29 G29 rfl W37 1 rfl (Nat.le_of_ble_eq_true rfl)
      have K37 : Keep h0 h37 [a1, bc, bn, s0, s1, s2] := K22.wr W37 (Or.inl (List.mem_of_getElem? (i := 3) rfl))
      have N37 := Fr.snoc X37 N22 g_s0
      have fk38 := (fk23.other W37 (Or.inl ne_a1_s0))
      obtain ⟨T39, X39, e39, st39⟩ := gF X37 hx hZ hown (ww hw 24 rfl) e37 fk38 (g := (mkF m 50 #[vR a1, vI 4, vI (-1), vI 4, vI 0, vR s0, vI 2, vI 2] [iR a1, iI 2])) rfl rfl (hb hby d7_50)
      have fk40 := (fk25.other W37 ne_bn_s0)
      obtain ⟨cl41, Ar41, q41, S41, M41, H41, G41⟩ := id fk40
      have hin42 := inb_of (j := (0 : Int32)) S41 ⟨by decide, by decide⟩
      obtain ⟨cl44, Ar44, q44, S44, M44, H44, G44⟩ := id V37
      have hin45 := inb_of (j := (2 : Int32)) S44 ⟨by decide, by decide⟩
      have pre48 : ∀ t, Steps p.tables e below (T39.setTop (mkF m 65 #[vR a1, vI 4, vI (-1), vI 4, vI 0, vR s0, vI 2, vI 2] [iI 4, iI x2_])) t → Steps p.tables e below (s₁.setTop (entryFrame m #[(.ref a1), (.int (4 : Int32))] 8)) t := by
        intro t kt
        refine pre33 t ?_
        refine XS.icmpNo X24.here hx rfl (hb hby d7_65) rfl (tlt hc32).2.1 ?_
        refine XS.aload X24.here hx rfl (hb hby d7_68) rfl rfl ?_
        refine XS.iload X24.here hx rfl (hb hby d7_70) rfl ?_
        refine XS.iinc X24.here hx rfl (hb hby d7_72) rfl (l' := #[vR a1, vI 4, vI (-1), vI 4, vI 0, vR s0, vI ((1 : Int32) + (1 : Int32)), vI 1]) rfl ?_
        rw [(by decide : ((1 : Int32) + (1 : Int32)) = (2 : Int32))]
        refine XS.aload X24.here hx rfl (hb hby d7_75) rfl rfl ?_
        refine XS.iload X24.here hx rfl (hb hby d7_77) rfl ?_
        show SA T24 m 79 #[vR a1, vI 4, vI (-1), vI 4, vI 0, vR s0, vI 2, vI 1] [iI 1, iR s0, iI 1, iR s0]
        refine X24.iaload hx (j := (1 : Int32)) (v := (.int x1_)) (by rw [e24]; exact Ar29.1) (State.isArrayOf_alike hZ.alike Ar29.2.1) Ar29.2.2 hin34 (Has.at H29 hin34 rfl) (g := (mkF m 79 #[vR a1, vI 4, vI (-1), vI 4, vI 0, vR s0, vI 2, vI 1] [iI 1, iR s0, iI 1, iR s0])) rfl rfl (hb hby d7_79) _ ?_
        refine st37 _ ?_
        refine XS.iinc X37.here hx rfl (hb hby d7_81) rfl (l' := #[vR a1, vI 4, vI (-1), vI 4, vI 0, vR s0, vI 2, vI ((1 : Int32) + (1 : Int32))]) rfl ?_
        rw [(by decide : ((1 : Int32) + (1 : Int32)) = (2 : Int32))]
        refine XS.goto X37.here hx rfl (pc0 := 84) (pc' := 47) rfl (hb hby d7_84) (by decide) (by decide) ?_
        refine XS.iload X37.here hx rfl (hb hby d7_47) rfl ?_
        refine XS.aloadN X37.here hx rfl (hb hby d7_49) rfl rfl ?_
        refine st39 _ ?_
        refine XS.iload X39.here hx rfl (hb hby d7_53) rfl ?_
        refine X39.iaload hx (j := (0 : Int32)) (v := (.int (3 : Int32))) (by rw [e39]; exact Ar41.1) (State.isArrayOf_alike hZ.alike Ar41.2.1) Ar41.2.2 hin42 (Has.at H41 hin42 rfl) (g := (mkF m 55 #[vR a1, vI 4, vI (-1), vI 4, vI 0, vR s0, vI 2, vI 2] [iI 0, iR bn, iI 2])) rfl rfl (hb hby d7_55) _ ?_
        refine XS.icmpNo X39.here hx rfl (hb hby d7_56) rfl (tlt (by decide : (2 : Int32) < (3 : Int32))).2.1 ?_
        refine XS.aload X39.here hx rfl (hb hby d7_59) rfl rfl ?_
        refine XS.iload X39.here hx rfl (hb hby d7_61) rfl ?_
        refine X39.iaload hx (j := (2 : Int32)) (v := (.int x2_)) (by rw [e39]; exact Ar44.1) (State.isArrayOf_alike hZ.alike Ar44.2.1) Ar44.2.2 hin45 (Has.at H44 hin45 rfl) (g := (mkF m 63 #[vR a1, vI 4, vI (-1), vI 4, vI 0, vR s0, vI 2, vI 2] [iI 2, iR s0])) rfl rfl (hb hby d7_63) _ ?_
        refine XS.iloadN X39.here hx rfl (hb hby d7_64) rfl ?_
        exact kt
      by_cases hc47 : x2_ < (4 : Int32)
      · exfalso; exact absurd hpat (by simp only [hc17, hc32, hc47, or_false, or_true, true_or, false_or, and_true, true_and, false_and, and_false, not_true_eq_false, not_false_eq_true])
      · obtain ⟨T49, X49, e49, st49⟩ := gF X39 hx hZ hown (ww hw 24 rfl) e39 fk38 (g := (mkF m 50 #[vR a1, vI 4, vI (-1), vI 4, vI 0, vR s0, vI 2, vI 3] [iR a1, iI 3])) rfl rfl (hb hby d7_50)
        have hin50 := inb_of (j := (0 : Int32)) S41 ⟨by decide, by decide⟩
        obtain ⟨T52, X52, e52, st52⟩ := gF X49 hx hZ hown (ww hw 24 rfl) e49 fk38 (g := (mkF m 88 #[vR a1, vI 4, vI (-1), vI 4, vI 0, vR s0, vI 2, vI 3] [iR a1])) rfl rfl (hb hby d7_88)
        have hin53 := inb_of (j := (0 : Int32)) S41 ⟨by decide, by decide⟩
        obtain ⟨T54, h54, X54, e54, W54, st54⟩ := stI X52 hx hZ e52 Ar41 (j := (0 : Int32)) hin53 (g := (mkF m 95 #[vR a1, vI 4, vI (-1), vI 4, vI 0, vR s0, vI 2, vI 3] [iI 2, iI 0, iR bn])) rfl rfl (hb hby d7_95)
        have V54 : Arv Z h54 bn kn .int (16 : Int32) (own_bs [2, 1, 2, 0, 0, 0, 0, 0, 0, 0, 0, 0, 0, 0, 0, 0]) (.int (0 : Int32)) := Arv.set Ar41 q41 S41 M41 H41 G41 rfl W54 0 rfl (Nat.le_of_ble_eq_true rfl)
        have K54 : Keep h0 h54 [a1, bc, bn, s0, s1, s2] := K37.wr W54 (Or.inl (List.mem_of_getElem? (i := 2) rfl))
        have N54 := Fr.snoc X54 N37 g_bn
        have fk55 := (((F_children.other W22 (Or.inl ne_a1_s0)).other W37 (Or.inl ne_a1_s0)).other W54 (Or.inl ne_a1_bn))
        obtain ⟨T56, X56, e56, st56⟩ := gF X54 hx hZ hown (ww hw 22 rfl) e54 fk55 (g := (mkF m 100 #[vR a1, vI 4, vI 0, vI 4, vI 0, vR s0, vI 2, vI 3] [iR a1])) rfl rfl (hb hby d7_100)
        have fk57 := (((V_bc.other W22 ne_bc_s0).other W37 ne_bc_s0).other W54 ne_bc_bn)
        obtain ⟨cl58, Ar58, q58, S58, M58, H58, G58⟩ := id fk57
        have hin59 := inb_of (j := (4 : Int32)) S58 ⟨by decide, by decide⟩
        obtain ⟨T60, h60, X60, e60, W60, st60⟩ := stR X56 hx hZ e56 Ar58 (j := (4 : Int32)) (v := .null) hin59 rfl (Or.inl rfl) (g := (mkF m 105 #[vR a1, vI 4, vI 0, vI 4, vI 0, vR s0, vI 2, vI 3] [.null, iI 4, iR bc])) rfl rfl (hb hby d7_105)
        have V60 : Arv Z h60 bc kc (.array .int) (16 : Int32) [(.ref s0), (.ref s1), (.ref s2), .null, .null, .null, .null, .null, .null, .null, .null, .null, .null, .null, .null, .null] .null := Arv.set Ar58 q58 S58 M58 H58 G58 rfl W60 4 rfl (Nat.le_of_ble_eq_true rfl)
        have K60 : Keep h0 h60 [a1, bc, bn, s0, s1, s2] := K54.wr W60 (Or.inl (List.mem_of_getElem? (i := 1) rfl))
        have N60 := Fr.snoc X60 N54 g_bc
        have fk61 := ((fk38.other W54 (Or.inl ne_a1_bn)).other W60 (Or.inl ne_a1_bc))
        obtain ⟨T62, X62, e62, st62⟩ := gF X60 hx hZ hown (ww hw 24 rfl) e60 fk61 (g := (mkF m 107 #[vR a1, vI 4, vI 0, vI 4, vI 0, vR s0, vI 2, vI 3] [iR a1])) rfl rfl (hb hby d7_107)
        have fk63 := (V54.other W60 (Ne.symm ne_bc_bn))
        obtain ⟨cl64, Ar64, q64, S64, M64, H64, G64⟩ := id fk63
        have hin65 := inb_of (j := (4 : Int32)) S64 ⟨by decide, by decide⟩
        obtain ⟨T66, h66, X66, e66, W66, st66⟩ := stI X62 hx hZ e62 Ar64 (j := (4 : Int32)) hin65 (g := (mkF m 112 #[vR a1, vI 4, vI 0, vI 4, vI 0, vR s0, vI 2, vI 3] [iI 0, iI 4, iR bn])) rfl rfl (hb hby d7_112)
        have V66 : Arv Z h66 bn kn .int (16 : Int32) (own_bs [2, 1, 2, 0, 0, 0, 0, 0, 0, 0, 0, 0, 0, 0, 0, 0]) (.int (0 : Int32)) := Arv.set Ar64 q64 S64 M64 H64 G64 rfl W66 4 rfl (Nat.le_of_ble_eq_true rfl)
        have K66 : Keep h0 h66 [a1, bc, bn, s0, s1, s2] := K60.wr W66 (Or.inl (List.mem_of_getElem? (i := 2) rfl))
        have N66 := Fr.snoc X66 N60 g_bn
        have fk67 := (((((E_a1.wr W22).wr W37).wr W54).wr W60).wr W66)
        have fk68 := (((((F_size.other W22 (Or.inl ne_a1_s0)).other W37 (Or.inl ne_a1_s0)).other W54 (Or.inl ne_a1_bn)).other W60 (Or.inl ne_a1_bc)).other W66 (Or.inl ne_a1_bn))
        have fk69 := (((((F_items.other W22 (Or.inl ne_a1_s0)).other W37 (Or.inl ne_a1_s0)).other W54 (Or.inl ne_a1_bn)).other W60 (Or.inl ne_a1_bc)).other W66 (Or.inl ne_a1_bn))
        have fk70 := (((((V_bi.other W22 ne_bi_s0).other W37 ne_bi_s0).other W54 ne_bi_bn).other W60 ne_bi_bc).other W66 ne_bi_bn)
        have fk71 := (((((F_sameEvents.other W22 (Or.inl ne_a1_s0)).other W37 (Or.inl ne_a1_s0)).other W54 (Or.inl ne_a1_bn)).other W60 (Or.inl ne_a1_bc)).other W66 (Or.inl ne_a1_bn))
        have fk72 := (((((V_bf.other W22 ne_bf_s0).other W37 ne_bf_s0).other W54 ne_bf_bn).other W60 ne_bf_bc).other W66 ne_bf_bn)
        have fk73 := (((((F_parents.other W22 (Or.inl ne_a1_s0)).other W37 (Or.inl ne_a1_s0)).other W54 (Or.inl ne_a1_bn)).other W60 (Or.inl ne_a1_bc)).other W66 (Or.inl ne_a1_bn))
        have fk74 := (((((V_bp.other W22 ne_bp_s0).other W37 ne_bp_s0).other W54 ne_bp_bn).other W60 ne_bp_bc).other W66 ne_bp_bn)
        have fk75 := ((fk55.other W60 (Or.inl ne_a1_bc)).other W66 (Or.inl ne_a1_bn))
        have fk76 := (V60.other W66 ne_bc_bn)
        have fk77 := (fk61.other W66 (Or.inl ne_a1_bn))
        have fk78 := (((V37.other W54 (Ne.symm ne_bn_s0)).other W60 (Ne.symm ne_bc_s0)).other W66 (Ne.symm ne_bn_s0))
        have fk79 := (((((E_s0.wr W22).wr W37).wr W54).wr W60).wr W66)
        have fk80 := (((((V_s1.other W22 (Ne.symm ne_s0_s1)).other W37 (Ne.symm ne_s0_s1)).other W54 (Ne.symm ne_bn_s1)).other W60 (Ne.symm ne_bc_s1)).other W66 (Ne.symm ne_bn_s1))
        have fk81 := (((((E_s1.wr W22).wr W37).wr W54).wr W60).wr W66)
        have fk82 := (((((V_s2.other W22 (Ne.symm ne_s0_s2)).other W37 (Ne.symm ne_s0_s2)).other W54 (Ne.symm ne_bn_s2)).other W60 (Ne.symm ne_bc_s2)).other W66 (Ne.symm ne_bn_s2))
        have fk83 := (((((E_s2.wr W22).wr W37).wr W54).wr W60).wr W66)
        have pre84 : ∀ t, Steps p.tables e below (T66.setTop (mkF m 4 #[vR a1, vI 4, vI 0, vI 5, vI 0, vR s0, vI 2, vI 3] [])) t → Steps p.tables e below (s₁.setTop (entryFrame m #[(.ref a1), (.int (4 : Int32))] 8)) t := by
          intro t kt
          refine pre48 t ?_
          refine XS.icmpYes X39.here hx rfl (pc0 := 65) (pc' := 81) rfl (hb hby d7_65) rfl (flt hc47).2.1 (by decide) (by decide) ?_
          refine XS.iinc X39.here hx rfl (hb hby d7_81) rfl (l' := #[vR a1, vI 4, vI (-1), vI 4, vI 0, vR s0, vI 2, vI ((2 : Int32) + (1 : Int32))]) rfl ?_
          rw [(by decide : ((2 : Int32) + (1 : Int32)) = (3 : Int32))]
          refine XS.goto X39.here hx rfl (pc0 := 84) (pc' := 47) rfl (hb hby d7_84) (by decide) (by decide) ?_
          refine XS.iload X39.here hx rfl (hb hby d7_47) rfl ?_
          refine XS.aloadN X39.here hx rfl (hb hby d7_49) rfl rfl ?_
          refine st49 _ ?_
          refine XS.iload X49.here hx rfl (hb hby d7_53) rfl ?_
          refine X49.iaload hx (j := (0 : Int32)) (v := (.int (3 : Int32))) (by rw [e49]; exact Ar41.1) (State.isArrayOf_alike hZ.alike Ar41.2.1) Ar41.2.2 hin50 (Has.at H41 hin50 rfl) (g := (mkF m 55 #[vR a1, vI 4, vI (-1), vI 4, vI 0, vR s0, vI 2, vI 3] [iI 0, iR bn, iI 3])) rfl rfl (hb hby d7_55) _ ?_
          refine XS.icmpYes X49.here hx rfl (pc0 := 56) (pc' := 87) rfl (hb hby d7_56) rfl (flt (by decide : ¬ ((3 : Int32) < (3 : Int32)))).2.1 (by decide) (by decide) ?_
          refine XS.aloadN X49.here hx rfl (hb hby d7_87) rfl rfl ?_
          refine st52 _ ?_
          refine XS.iload X52.here hx rfl (hb hby d7_91) rfl ?_
          refine XS.iload X52.here hx rfl (hb hby d7_93) rfl ?_
          refine st54 _ ?_
          refine XS.iload X54.here hx rfl (hb hby d7_96) rfl ?_
          refine XS.istoreN X54.here hx rfl (hb hby d7_98) rfl (l' := #[vR a1, vI 4, vI 0, vI 4, vI 0, vR s0, vI 2, vI 3]) rfl ?_
          refine XS.aloadN X54.here hx rfl (hb hby d7_99) rfl rfl ?_
          refine st56 _ ?_
          refine XS.iloadN X56.here hx rfl (hb hby d7_103) rfl ?_
          refine XS.aconstNull X56.here hx rfl (hb hby d7_104) ?_
          refine st60 _ ?_
          refine XS.aloadN X60.here hx rfl (hb hby d7_106) rfl rfl ?_
          refine st62 _ ?_
          refine XS.iloadN X62.here hx rfl (hb hby d7_110) rfl ?_
          refine XS.iconst X62.here hx rfl (hb hby d7_111) ?_
          refine st66 _ ?_
          refine XS.iinc X66.here hx rfl (hb hby d7_113) rfl (l' := #[vR a1, vI 4, vI 0, vI ((4 : Int32) + (1 : Int32)), vI 0, vR s0, vI 2, vI 3]) rfl ?_
          rw [(by decide : ((4 : Int32) + (1 : Int32)) = (5 : Int32))]
          refine XS.goto X66.here hx rfl (pc0 := 116) (pc' := 4) rfl (hb hby d7_116) (by decide) (by decide) ?_
          exact kt
        obtain ⟨s₂, o₂, hs₂, hr₂⟩ := own_t7_x (K_ := (4 : Int32)) (n1_ := (1 : Int32)) (IL := IL) (FL := FL) (x0_ := x0_) (x1_ := x1_) (x2_ := x2_) (x3_ := x3_) (w0_ := x0_) (w1_ := x1_) (w2_ := x2_) (w3_ := x3_) (y1_ := y1_) (y2_ := y2_) (y3_ := y3_) (z0_ := z0_) (z1_ := z1_) (z2_ := z2_) (z3_ := z3_) X66 hx hZ hw hby hml hown Bd.returns (by first | assumption | exact BodyLoose.notSynchronized (by assumption) | exact Body.notSynchronized (by assumption)) e66 K66 N66 Z0 fk67 fk68 fk69 fk70 fk71 fk72 fk73 fk74 fk75 fk76 fk77 V66 fk78 fk79 fk80 fk81 fk82 fk83 hpr1 hpr2 hpr3 hpr4 hpr5 hpr6 g_a1 g_bi g_bf g_bp g_bc g_bn g_s0 g_s1 g_s2 ne_a1_bi ne_a1_bf ne_a1_bp ne_a1_bc ne_a1_bn ne_a1_s0 ne_a1_s1 ne_a1_s2 ne_bi_bf ne_bi_bp ne_bi_bc ne_bi_bn ne_bi_s0 ne_bi_s1 ne_bi_s2 ne_bf_bp ne_bf_bc ne_bf_bn ne_bf_s0 ne_bf_s1 ne_bf_s2 ne_bp_bc ne_bp_bn ne_bp_s0 ne_bp_s1 ne_bp_s2 ne_bc_bn ne_bc_s0 ne_bc_s1 ne_bc_s2 ne_bn_s0 ne_bn_s1 ne_bn_s2 ne_s0_s1 ne_s0_s2 ne_s1_s2 (by decide) h_z0_ h_z1_ ⟨fun h => absurd hc17 h, fun h => absurd hc32 h, fun _ => ⟨rfl, rfl⟩⟩
        exact ⟨s₂, o₂, pre84 _ hs₂, hr₂⟩
    · obtain ⟨T85, X85, e85, st85⟩ := gF X24 hx hZ hown (ww hw 24 rfl) e24 fk23 (g := (mkF m 50 #[vR a1, vI 4, vI (-1), vI 4, vI 0, vR s0, vI 1, vI 2] [iR a1, iI 2])) rfl rfl (hb hby d7_50)
      have hin86 := inb_of (j := (0 : Int32)) S26 ⟨by decide, by decide⟩
      have hin88 := inb_of (j := (2 : Int32)) S29 ⟨by decide, by decide⟩
      have pre91 : ∀ t, Steps p.tables e below (T85.setTop (mkF m 65 #[vR a1, vI 4, vI (-1), vI 4, vI 0, vR s0, vI 1, vI 2] [iI 4, iI x2_])) t → Steps p.tables e below (s₁.setTop (entryFrame m #[(.ref a1), (.int (4 : Int32))] 8)) t := by
        intro t kt
        refine pre33 t ?_
        refine XS.icmpYes X24.here hx rfl (pc0 := 65) (pc' := 81) rfl (hb hby d7_65) rfl (flt hc32).2.1 (by decide) (by decide) ?_
        refine XS.iinc X24.here hx rfl (hb hby d7_81) rfl (l' := #[vR a1, vI 4, vI (-1), vI 4, vI 0, vR s0, vI 1, vI ((1 : Int32) + (1 : Int32))]) rfl ?_
        rw [(by decide : ((1 : Int32) + (1 : Int32)) = (2 : Int32))]
        refine XS.goto X24.here hx rfl (pc0 := 84) (pc' := 47) rfl (hb hby d7_84) (by decide) (by decide) ?_
        refine XS.iload X24.here hx rfl (hb hby d7_47) rfl ?_
        refine XS.aloadN X24.here hx rfl (hb hby d7_49) rfl rfl ?_
        refine st85 _ ?_
        refine XS.iload X85.here hx rfl (hb hby d7_53) rfl ?_
        refine X85.iaload hx (j := (0 : Int32)) (v := (.int (3 : Int32))) (by rw [e85]; exact Ar26.1) (State.isArrayOf_alike hZ.alike Ar26.2.1) Ar26.2.2 hin86 (Has.at H26 hin86 rfl) (g := (mkF m 55 #[vR a1, vI 4, vI (-1), vI 4, vI 0, vR s0, vI 1, vI 2] [iI 0, iR bn, iI 2])) rfl rfl (hb hby d7_55) _ ?_
        refine XS.icmpNo X85.here hx rfl (hb hby d7_56) rfl (tlt (by decide : (2 : Int32) < (3 : Int32))).2.1 ?_
        refine XS.aload X85.here hx rfl (hb hby d7_59) rfl rfl ?_
        refine XS.iload X85.here hx rfl (hb hby d7_61) rfl ?_
        refine X85.iaload hx (j := (2 : Int32)) (v := (.int x2_)) (by rw [e85]; exact Ar29.1) (State.isArrayOf_alike hZ.alike Ar29.2.1) Ar29.2.2 hin88 (Has.at H29 hin88 rfl) (g := (mkF m 63 #[vR a1, vI 4, vI (-1), vI 4, vI 0, vR s0, vI 1, vI 2] [iI 2, iR s0])) rfl rfl (hb hby d7_63) _ ?_
        refine XS.iloadN X85.here hx rfl (hb hby d7_64) rfl ?_
        exact kt
      by_cases hc90 : x2_ < (4 : Int32)
      · have hin92 := inb_of (j := (2 : Int32)) S29 ⟨by decide, by decide⟩
        have hin94 := inb_of (j := (1 : Int32)) S29 ⟨by decide, by decide⟩
        obtain ⟨T95, h95, X95, e95, W95, st95⟩ := stI X85 hx hZ e85 Ar29 (j := (1 : Int32)) hin94 (g := (mkF m 80 #[vR a1, vI 4, vI (-1), vI 4, vI 0, vR s0, vI 2, vI 2] [iI x2_, iI 1, iR s0])) rfl rfl (hb hby d7_80)
        have V95 : Arv Z h95 s0 q0 .int (4 : Int32) (own_bs [x0_, x2_, x2_, x3_]) (.int (0 : Int32)) := Arv.set Ar29 q29 S29 M29 H29 G29 rfl W95 1 rfl (Nat.le_of_ble_eq_true rfl)
        have K95 : Keep h0 h95 [a1, bc, bn, s0, s1, s2] := K22.wr W95 (Or.inl (List.mem_of_getElem? (i := 3) rfl))
        have N95 := Fr.snoc X95 N22 g_s0
        have fk96 := (fk23.other W95 (Or.inl ne_a1_s0))
        obtain ⟨T97, X97, e97, st97⟩ := gF X95 hx hZ hown (ww hw 24 rfl) e95 fk96 (g := (mkF m 50 #[vR a1, vI 4, vI (-1), vI 4, vI 0, vR s0, vI 2, vI 3] [iR a1, iI 3])) rfl rfl (hb hby d7_50)
        have fk98 := (fk25.other W95 ne_bn_s0)
        obtain ⟨cl99, Ar99, q99, S99, M99, H99, G99⟩ := id fk98
        have hin100 := inb_of (j := (0 : Int32)) S99 ⟨by decide, by decide⟩
        obtain ⟨T102, X102, e102, st102⟩ := gF X97 hx hZ hown (ww hw 24 rfl) e97 fk96 (g := (mkF m 88 #[vR a1, vI 4, vI (-1), vI 4, vI 0, vR s0, vI 2, vI 3] [iR a1])) rfl rfl (hb hby d7_88)
        have hin103 := inb_of (j := (0 : Int32)) S99 ⟨by decide, by decide⟩
        obtain ⟨T104, h104, X104, e104, W104, st104⟩ := stI X102 hx hZ e102 Ar99 (j := (0 : Int32)) hin103 (g := (mkF m 95 #[vR a1, vI 4, vI (-1), vI 4, vI 0, vR s0, vI 2, vI 3] [iI 2, iI 0, iR bn])) rfl rfl (hb hby d7_95)
        have V104 : Arv Z h104 bn kn .int (16 : Int32) (own_bs [2, 1, 2, 0, 0, 0, 0, 0, 0, 0, 0, 0, 0, 0, 0, 0]) (.int (0 : Int32)) := Arv.set Ar99 q99 S99 M99 H99 G99 rfl W104 0 rfl (Nat.le_of_ble_eq_true rfl)
        have K104 : Keep h0 h104 [a1, bc, bn, s0, s1, s2] := K95.wr W104 (Or.inl (List.mem_of_getElem? (i := 2) rfl))
        have N104 := Fr.snoc X104 N95 g_bn
        have fk105 := (((F_children.other W22 (Or.inl ne_a1_s0)).other W95 (Or.inl ne_a1_s0)).other W104 (Or.inl ne_a1_bn))
        obtain ⟨T106, X106, e106, st106⟩ := gF X104 hx hZ hown (ww hw 22 rfl) e104 fk105 (g := (mkF m 100 #[vR a1, vI 4, vI 0, vI 4, vI 0, vR s0, vI 2, vI 3] [iR a1])) rfl rfl (hb hby d7_100)
        have fk107 := (((V_bc.other W22 ne_bc_s0).other W95 ne_bc_s0).other W104 ne_bc_bn)
        obtain ⟨cl108, Ar108, q108, S108, M108, H108, G108⟩ := id fk107
        have hin109 := inb_of (j := (4 : Int32)) S108 ⟨by decide, by decide⟩
        obtain ⟨T110, h110, X110, e110, W110, st110⟩ := stR X106 hx hZ e106 Ar108 (j := (4 : Int32)) (v := .null) hin109 rfl (Or.inl rfl) (g := (mkF m 105 #[vR a1, vI 4, vI 0, vI 4, vI 0, vR s0, vI 2, vI 3] [.null, iI 4, iR bc])) rfl rfl (hb hby d7_105)
        have V110 : Arv Z h110 bc kc (.array .int) (16 : Int32) [(.ref s0), (.ref s1), (.ref s2), .null, .null, .null, .null, .null, .null, .null, .null, .null, .null, .null, .null, .null] .null := Arv.set Ar108 q108 S108 M108 H108 G108 rfl W110 4 rfl (Nat.le_of_ble_eq_true rfl)
        have K110 : Keep h0 h110 [a1, bc, bn, s0, s1, s2] := K104.wr W110 (Or.inl (List.mem_of_getElem? (i := 1) rfl))
        have N110 := Fr.snoc X110 N104 g_bc
        have fk111 := ((fk96.other W104 (Or.inl ne_a1_bn)).other W110 (Or.inl ne_a1_bc))
        obtain ⟨T112, X112, e112, st112⟩ := gF X110 hx hZ hown (ww hw 24 rfl) e110 fk111 (g := (mkF m 107 #[vR a1, vI 4, vI 0, vI 4, vI 0, vR s0, vI 2, vI 3] [iR a1])) rfl rfl (hb hby d7_107)
        have fk113 := (V104.other W110 (Ne.symm ne_bc_bn))
        obtain ⟨cl114, Ar114, q114, S114, M114, H114, G114⟩ := id fk113
        have hin115 := inb_of (j := (4 : Int32)) S114 ⟨by decide, by decide⟩
        obtain ⟨T116, h116, X116, e116, W116, st116⟩ := stI X112 hx hZ e112 Ar114 (j := (4 : Int32)) hin115 (g := (mkF m 112 #[vR a1, vI 4, vI 0, vI 4, vI 0, vR s0, vI 2, vI 3] [iI 0, iI 4, iR bn])) rfl rfl (hb hby d7_112)
        have V116 : Arv Z h116 bn kn .int (16 : Int32) (own_bs [2, 1, 2, 0, 0, 0, 0, 0, 0, 0, 0, 0, 0, 0, 0, 0]) (.int (0 : Int32)) := Arv.set Ar114 q114 S114 M114 H114 G114 rfl W116 4 rfl (Nat.le_of_ble_eq_true rfl)
        have K116 : Keep h0 h116 [a1, bc, bn, s0, s1, s2] := K110.wr W116 (Or.inl (List.mem_of_getElem? (i := 2) rfl))
        have N116 := Fr.snoc X116 N110 g_bn
        have fk117 := (((((E_a1.wr W22).wr W95).wr W104).wr W110).wr W116)
        have fk118 := (((((F_size.other W22 (Or.inl ne_a1_s0)).other W95 (Or.inl ne_a1_s0)).other W104 (Or.inl ne_a1_bn)).other W110 (Or.inl ne_a1_bc)).other W116 (Or.inl ne_a1_bn))
        have fk119 := (((((F_items.other W22 (Or.inl ne_a1_s0)).other W95 (Or.inl ne_a1_s0)).other W104 (Or.inl ne_a1_bn)).other W110 (Or.inl ne_a1_bc)).other W116 (Or.inl ne_a1_bn))
        have fk120 := (((((V_bi.other W22 ne_bi_s0).other W95 ne_bi_s0).other W104 ne_bi_bn).other W110 ne_bi_bc).other W116 ne_bi_bn)
        have fk121 := (((((F_sameEvents.other W22 (Or.inl ne_a1_s0)).other W95 (Or.inl ne_a1_s0)).other W104 (Or.inl ne_a1_bn)).other W110 (Or.inl ne_a1_bc)).other W116 (Or.inl ne_a1_bn))
        have fk122 := (((((V_bf.other W22 ne_bf_s0).other W95 ne_bf_s0).other W104 ne_bf_bn).other W110 ne_bf_bc).other W116 ne_bf_bn)
        have fk123 := (((((F_parents.other W22 (Or.inl ne_a1_s0)).other W95 (Or.inl ne_a1_s0)).other W104 (Or.inl ne_a1_bn)).other W110 (Or.inl ne_a1_bc)).other W116 (Or.inl ne_a1_bn))
        have fk124 := (((((V_bp.other W22 ne_bp_s0).other W95 ne_bp_s0).other W104 ne_bp_bn).other W110 ne_bp_bc).other W116 ne_bp_bn)
        have fk125 := ((fk105.other W110 (Or.inl ne_a1_bc)).other W116 (Or.inl ne_a1_bn))
        have fk126 := (V110.other W116 ne_bc_bn)
        have fk127 := (fk111.other W116 (Or.inl ne_a1_bn))
        have fk128 := (((V95.other W104 (Ne.symm ne_bn_s0)).other W110 (Ne.symm ne_bc_s0)).other W116 (Ne.symm ne_bn_s0))
        have fk129 := (((((E_s0.wr W22).wr W95).wr W104).wr W110).wr W116)
        have fk130 := (((((V_s1.other W22 (Ne.symm ne_s0_s1)).other W95 (Ne.symm ne_s0_s1)).other W104 (Ne.symm ne_bn_s1)).other W110 (Ne.symm ne_bc_s1)).other W116 (Ne.symm ne_bn_s1))
        have fk131 := (((((E_s1.wr W22).wr W95).wr W104).wr W110).wr W116)
        have fk132 := (((((V_s2.other W22 (Ne.symm ne_s0_s2)).other W95 (Ne.symm ne_s0_s2)).other W104 (Ne.symm ne_bn_s2)).other W110 (Ne.symm ne_bc_s2)).other W116 (Ne.symm ne_bn_s2))
        have fk133 := (((((E_s2.wr W22).wr W95).wr W104).wr W110).wr W116)
        have pre134 : ∀ t, Steps p.tables e below (T116.setTop (mkF m 4 #[vR a1, vI 4, vI 0, vI 5, vI 0, vR s0, vI 2, vI 3] [])) t → Steps p.tables e below (s₁.setTop (entryFrame m #[(.ref a1), (.int (4 : Int32))] 8)) t := by
          intro t kt
          refine pre91 t ?_
          refine XS.icmpNo X85.here hx rfl (hb hby d7_65) rfl (tlt hc90).2.1 ?_
          refine XS.aload X85.here hx rfl (hb hby d7_68) rfl rfl ?_
          refine XS.iload X85.here hx rfl (hb hby d7_70) rfl ?_
          refine XS.iinc X85.here hx rfl (hb hby d7_72) rfl (l' := #[vR a1, vI 4, vI (-1), vI 4, vI 0, vR s0, vI ((1 : Int32) + (1 : Int32)), vI 2]) rfl ?_
          rw [(by decide : ((1 : Int32) + (1 : Int32)) = (2 : Int32))]
          refine XS.aload X85.here hx rfl (hb hby d7_75) rfl rfl ?_
          refine XS.iload X85.here hx rfl (hb hby d7_77) rfl ?_
          show SA T85 m 79 #[vR a1, vI 4, vI (-1), vI 4, vI 0, vR s0, vI 2, vI 2] [iI 2, iR s0, iI 1, iR s0]
          refine X85.iaload hx (j := (2 : Int32)) (v := (.int x2_)) (by rw [e85]; exact Ar29.1) (State.isArrayOf_alike hZ.alike Ar29.2.1) Ar29.2.2 hin92 (Has.at H29 hin92 rfl) (g := (mkF m 79 #[vR a1, vI 4, vI (-1), vI 4, vI 0, vR s0, vI 2, vI 2] [iI 2, iR s0, iI 1, iR s0])) rfl rfl (hb hby d7_79) _ ?_
          refine st95 _ ?_
          refine XS.iinc X95.here hx rfl (hb hby d7_81) rfl (l' := #[vR a1, vI 4, vI (-1), vI 4, vI 0, vR s0, vI 2, vI ((2 : Int32) + (1 : Int32))]) rfl ?_
          rw [(by decide : ((2 : Int32) + (1 : Int32)) = (3 : Int32))]
          refine XS.goto X95.here hx rfl (pc0 := 84) (pc' := 47) rfl (hb hby d7_84) (by decide) (by decide) ?_
          refine XS.iload X95.here hx rfl (hb hby d7_47) rfl ?_
          refine XS.aloadN X95.here hx rfl (hb hby d7_49) rfl rfl ?_
          refine st97 _ ?_
          refine XS.iload X97.here hx rfl (hb hby d7_53) rfl ?_
          refine X97.iaload hx (j := (0 : Int32)) (v := (.int (3 : Int32))) (by rw [e97]; exact Ar99.1) (State.isArrayOf_alike hZ.alike Ar99.2.1) Ar99.2.2 hin100 (Has.at H99 hin100 rfl) (g := (mkF m 55 #[vR a1, vI 4, vI (-1), vI 4, vI 0, vR s0, vI 2, vI 3] [iI 0, iR bn, iI 3])) rfl rfl (hb hby d7_55) _ ?_
          refine XS.icmpYes X97.here hx rfl (pc0 := 56) (pc' := 87) rfl (hb hby d7_56) rfl (flt (by decide : ¬ ((3 : Int32) < (3 : Int32)))).2.1 (by decide) (by decide) ?_
          refine XS.aloadN X97.here hx rfl (hb hby d7_87) rfl rfl ?_
          refine st102 _ ?_
          refine XS.iload X102.here hx rfl (hb hby d7_91) rfl ?_
          refine XS.iload X102.here hx rfl (hb hby d7_93) rfl ?_
          refine st104 _ ?_
          refine XS.iload X104.here hx rfl (hb hby d7_96) rfl ?_
          refine XS.istoreN X104.here hx rfl (hb hby d7_98) rfl (l' := #[vR a1, vI 4, vI 0, vI 4, vI 0, vR s0, vI 2, vI 3]) rfl ?_
          refine XS.aloadN X104.here hx rfl (hb hby d7_99) rfl rfl ?_
          refine st106 _ ?_
          refine XS.iloadN X106.here hx rfl (hb hby d7_103) rfl ?_
          refine XS.aconstNull X106.here hx rfl (hb hby d7_104) ?_
          refine st110 _ ?_
          refine XS.aloadN X110.here hx rfl (hb hby d7_106) rfl rfl ?_
          refine st112 _ ?_
          refine XS.iloadN X112.here hx rfl (hb hby d7_110) rfl ?_
          refine XS.iconst X112.here hx rfl (hb hby d7_111) ?_
          refine st116 _ ?_
          refine XS.iinc X116.here hx rfl (hb hby d7_113) rfl (l' := #[vR a1, vI 4, vI 0, vI ((4 : Int32) + (1 : Int32)), vI 0, vR s0, vI 2, vI 3]) rfl ?_
          rw [(by decide : ((4 : Int32) + (1 : Int32)) = (5 : Int32))]
          refine XS.goto X116.here hx rfl (pc0 := 116) (pc' := 4) rfl (hb hby d7_116) (by decide) (by decide) ?_
          exact kt
        obtain ⟨s₂, o₂, hs₂, hr₂⟩ := own_t7_x (K_ := (4 : Int32)) (n1_ := (1 : Int32)) (IL := IL) (FL := FL) (x0_ := x0_) (x1_ := x1_) (x2_ := x2_) (x3_ := x3_) (w0_ := x0_) (w1_ := x2_) (w2_ := x2_) (w3_ := x3_) (y1_ := y1_) (y2_ := y2_) (y3_ := y3_) (z0_ := z0_) (z1_ := z1_) (z2_ := z2_) (z3_ := z3_) X116 hx hZ hw hby hml hown Bd.returns (by first | assumption | exact BodyLoose.notSynchronized (by assumption) | exact Body.notSynchronized (by assumption)) e116 K116 N116 Z0 fk117 fk118 fk119 fk120 fk121 fk122 fk123 fk124 fk125 fk126 fk127 V116 fk128 fk129 fk130 fk131 fk132 fk133 hpr1 hpr2 hpr3 hpr4 hpr5 hpr6 g_a1 g_bi g_bf g_bp g_bc g_bn g_s0 g_s1 g_s2 ne_a1_bi ne_a1_bf ne_a1_bp ne_a1_bc ne_a1_bn ne_a1_s0 ne_a1_s1 ne_a1_s2 ne_bi_bf ne_bi_bp ne_bi_bc ne_bi_bn ne_bi_s0 ne_bi_s1 ne_bi_s2 ne_bf_bp ne_bf_bc ne_bf_bn ne_bf_s0 ne_bf_s1 ne_bf_s2 ne_bp_bc ne_bp_bn ne_bp_s0 ne_bp_s1 ne_bp_s2 ne_bc_bn ne_bc_s0 ne_bc_s1 ne_bc_s2 ne_bn_s0 ne_bn_s1 ne_bn_s2 ne_s0_s1 ne_s0_s2 ne_s1_s2 (by decide) h_z0_ h_z1_ ⟨fun h => absurd hc17 h, fun _ => ⟨rfl, rfl⟩, fun h => absurd hc90 h⟩
        exact ⟨s₂, o₂, pre134 _ hs₂, hr₂⟩
      · exfalso; exact absurd hpat (by simp only [hc17, hc32, hc90, or_false, or_true, true_or, false_or, and_true, true_and, false_and, and_false, not_true_eq_false, not_false_eq_true])
  · obtain ⟨T135, X135, e135, st135⟩ := gF X10 hx hZ hown (ww hw 24 rfl) e10 F_childCounts (g := (mkF m 50 #[vR a1, vI 4, vI (-1), vI 4, vI 0, vR s0, vI 0, vI 1] [iR a1, iI 1])) rfl rfl (hb hby d7_50)
    have hin136 := inb_of (j := (0 : Int32)) S11 ⟨by decide, by decide⟩
    have hin138 := inb_of (j := (1 : Int32)) S14 ⟨by decide, by decide⟩
    have pre141 : ∀ t, Steps p.tables e below (T135.setTop (mkF m 65 #[vR a1, vI 4, vI (-1), vI 4, vI 0, vR s0, vI 0, vI 1] [iI 4, iI x1_])) t → Steps p.tables e below (s₁.setTop (entryFrame m #[(.ref a1), (.int (4 : Int32))] 8)) t := by
      intro t kt
      refine pre18 t ?_
      refine XS.icmpYes X10.here hx rfl (pc0 := 65) (pc' := 81) rfl (hb hby d7_65) rfl (flt hc17).2.1 (by decide) (by decide) ?_
      refine XS.iinc X10.here hx rfl (hb hby d7_81) rfl (l' := #[vR a1, vI 4, vI (-1), vI 4, vI 0, vR s0, vI 0, vI ((0 : Int32) + (1 : Int32))]) rfl ?_
      rw [(by decide : ((0 : Int32) + (1 : Int32)) = (1 : Int32))]
      refine XS.goto X10.here hx rfl (pc0 := 84) (pc' := 47) rfl (hb hby d7_84) (by decide) (by decide) ?_
      refine XS.iload X10.here hx rfl (hb hby d7_47) rfl ?_
      refine XS.aloadN X10.here hx rfl (hb hby d7_49) rfl rfl ?_
      refine st135 _ ?_
      refine XS.iload X135.here hx rfl (hb hby d7_53) rfl ?_
      refine X135.iaload hx (j := (0 : Int32)) (v := (.int (3 : Int32))) (by rw [e135]; exact Ar11.1) (State.isArrayOf_alike hZ.alike Ar11.2.1) Ar11.2.2 hin136 (Has.at H11 hin136 rfl) (g := (mkF m 55 #[vR a1, vI 4, vI (-1), vI 4, vI 0, vR s0, vI 0, vI 1] [iI 0, iR bn, iI 1])) rfl rfl (hb hby d7_55) _ ?_
      refine XS.icmpNo X135.here hx rfl (hb hby d7_56) rfl (tlt (by decide : (1 : Int32) < (3 : Int32))).2.1 ?_
      refine XS.aload X135.here hx rfl (hb hby d7_59) rfl rfl ?_
      refine XS.iload X135.here hx rfl (hb hby d7_61) rfl ?_
      refine X135.iaload hx (j := (1 : Int32)) (v := (.int x1_)) (by rw [e135]; exact Ar14.1) (State.isArrayOf_alike hZ.alike Ar14.2.1) Ar14.2.2 hin138 (Has.at H14 hin138 rfl) (g := (mkF m 63 #[vR a1, vI 4, vI (-1), vI 4, vI 0, vR s0, vI 0, vI 1] [iI 1, iR s0])) rfl rfl (hb hby d7_63) _ ?_
      refine XS.iloadN X135.here hx rfl (hb hby d7_64) rfl ?_
      exact kt
    by_cases hc140 : x1_ < (4 : Int32)
    · have hin142 := inb_of (j := (1 : Int32)) S14 ⟨by decide, by decide⟩
      have hin144 := inb_of (j := (0 : Int32)) S14 ⟨by decide, by decide⟩
      obtain ⟨T145, h145, X145, e145, W145, st145⟩ := stI X135 hx hZ e135 Ar14 (j := (0 : Int32)) hin144 (g := (mkF m 80 #[vR a1, vI 4, vI (-1), vI 4, vI 0, vR s0, vI 1, vI 1] [iI x1_, iI 0, iR s0])) rfl rfl (hb hby d7_80)
      have V145 : Arv Z h145 s0 q0 .int (4 : Int32) (own_bs [x1_, x1_, x2_, x3_]) (.int (0 : Int32)) := Arv.set Ar14 q14 S14 M14 H14 G14 rfl W145 0 rfl (Nat.le_of_ble_eq_true rfl)
      have K145 : Keep h0 h145 [a1, bc, bn, s0, s1, s2] := K0.wr W145 (Or.inl (List.mem_of_getElem? (i := 3) rfl))
      have N145 := Fr.snoc X145 N0 g_s0
      have fk146 := (F_childCounts.other W145 (Or.inl ne_a1_s0))
      obtain ⟨T147, X147, e147, st147⟩ := gF X145 hx hZ hown (ww hw 24 rfl) e145 fk146 (g := (mkF m 50 #[vR a1, vI 4, vI (-1), vI 4, vI 0, vR s0, vI 1, vI 2] [iR a1, iI 2])) rfl rfl (hb hby d7_50)
      have fk148 := (V_bn.other W145 ne_bn_s0)
      obtain ⟨cl149, Ar149, q149, S149, M149, H149, G149⟩ := id fk148
      have hin150 := inb_of (j := (0 : Int32)) S149 ⟨by decide, by decide⟩
      obtain ⟨cl152, Ar152, q152, S152, M152, H152, G152⟩ := id V145
      have hin153 := inb_of (j := (2 : Int32)) S152 ⟨by decide, by decide⟩
      have pre156 : ∀ t, Steps p.tables e below (T147.setTop (mkF m 65 #[vR a1, vI 4, vI (-1), vI 4, vI 0, vR s0, vI 1, vI 2] [iI 4, iI x2_])) t → Steps p.tables e below (s₁.setTop (entryFrame m #[(.ref a1), (.int (4 : Int32))] 8)) t := by
        intro t kt
        refine pre141 t ?_
        refine XS.icmpNo X135.here hx rfl (hb hby d7_65) rfl (tlt hc140).2.1 ?_
        refine XS.aload X135.here hx rfl (hb hby d7_68) rfl rfl ?_
        refine XS.iload X135.here hx rfl (hb hby d7_70) rfl ?_
        refine XS.iinc X135.here hx rfl (hb hby d7_72) rfl (l' := #[vR a1, vI 4, vI (-1), vI 4, vI 0, vR s0, vI ((0 : Int32) + (1 : Int32)), vI 1]) rfl ?_
        rw [(by decide : ((0 : Int32) + (1 : Int32)) = (1 : Int32))]
        refine XS.aload X135.here hx rfl (hb hby d7_75) rfl rfl ?_
        refine XS.iload X135.here hx rfl (hb hby d7_77) rfl ?_
        show SA T135 m 79 #[vR a1, vI 4, vI (-1), vI 4, vI 0, vR s0, vI 1, vI 1] [iI 1, iR s0, iI 0, iR s0]
        refine X135.iaload hx (j := (1 : Int32)) (v := (.int x1_)) (by rw [e135]; exact Ar14.1) (State.isArrayOf_alike hZ.alike Ar14.2.1) Ar14.2.2 hin142 (Has.at H14 hin142 rfl) (g := (mkF m 79 #[vR a1, vI 4, vI (-1), vI 4, vI 0, vR s0, vI 1, vI 1] [iI 1, iR s0, iI 0, iR s0])) rfl rfl (hb hby d7_79) _ ?_
        refine st145 _ ?_
        refine XS.iinc X145.here hx rfl (hb hby d7_81) rfl (l' := #[vR a1, vI 4, vI (-1), vI 4, vI 0, vR s0, vI 1, vI ((1 : Int32) + (1 : Int32))]) rfl ?_
        rw [(by decide : ((1 : Int32) + (1 : Int32)) = (2 : Int32))]
        refine XS.goto X145.here hx rfl (pc0 := 84) (pc' := 47) rfl (hb hby d7_84) (by decide) (by decide) ?_
        refine XS.iload X145.here hx rfl (hb hby d7_47) rfl ?_
        refine XS.aloadN X145.here hx rfl (hb hby d7_49) rfl rfl ?_
        refine st147 _ ?_
        refine XS.iload X147.here hx rfl (hb hby d7_53) rfl ?_
        refine X147.iaload hx (j := (0 : Int32)) (v := (.int (3 : Int32))) (by rw [e147]; exact Ar149.1) (State.isArrayOf_alike hZ.alike Ar149.2.1) Ar149.2.2 hin150 (Has.at H149 hin150 rfl) (g := (mkF m 55 #[vR a1, vI 4, vI (-1), vI 4, vI 0, vR s0, vI 1, vI 2] [iI 0, iR bn, iI 2])) rfl rfl (hb hby d7_55) _ ?_
        refine XS.icmpNo X147.here hx rfl (hb hby d7_56) rfl (tlt (by decide : (2 : Int32) < (3 : Int32))).2.1 ?_
        refine XS.aload X147.here hx rfl (hb hby d7_59) rfl rfl ?_
        refine XS.iload X147.here hx rfl (hb hby d7_61) rfl ?_
        refine X147.iaload hx (j := (2 : Int32)) (v := (.int x2_)) (by rw [e147]; exact Ar152.1) (State.isArrayOf_alike hZ.alike Ar152.2.1) Ar152.2.2 hin153 (Has.at H152 hin153 rfl) (g := (mkF m 63 #[vR a1, vI 4, vI (-1), vI 4, vI 0, vR s0, vI 1, vI 2] [iI 2, iR s0])) rfl rfl (hb hby d7_63) _ ?_
        refine XS.iloadN X147.here hx rfl (hb hby d7_64) rfl ?_
        exact kt
      by_cases hc155 : x2_ < (4 : Int32)
      · have hin157 := inb_of (j := (2 : Int32)) S152 ⟨by decide, by decide⟩
        have hin159 := inb_of (j := (1 : Int32)) S152 ⟨by decide, by decide⟩
        obtain ⟨T160, h160, X160, e160, W160, st160⟩ := stI X147 hx hZ e147 Ar152 (j := (1 : Int32)) hin159 (g := (mkF m 80 #[vR a1, vI 4, vI (-1), vI 4, vI 0, vR s0, vI 2, vI 2] [iI x2_, iI 1, iR s0])) rfl rfl (hb hby d7_80)
        have V160 : Arv Z h160 s0 q0 .int (4 : Int32) (own_bs [x1_, x2_, x2_, x3_]) (.int (0 : Int32)) := Arv.set Ar152 q152 S152 M152 H152 G152 rfl W160 1 rfl (Nat.le_of_ble_eq_true rfl)
        have K160 : Keep h0 h160 [a1, bc, bn, s0, s1, s2] := K145.wr W160 (Or.inl (List.mem_of_getElem? (i := 3) rfl))
        have N160 := Fr.snoc X160 N145 g_s0
        have fk161 := (fk146.other W160 (Or.inl ne_a1_s0))
        obtain ⟨T162, X162, e162, st162⟩ := gF X160 hx hZ hown (ww hw 24 rfl) e160 fk161 (g := (mkF m 50 #[vR a1, vI 4, vI (-1), vI 4, vI 0, vR s0, vI 2, vI 3] [iR a1, iI 3])) rfl rfl (hb hby d7_50)
        have fk163 := (fk148.other W160 ne_bn_s0)
        obtain ⟨cl164, Ar164, q164, S164, M164, H164, G164⟩ := id fk163
        have hin165 := inb_of (j := (0 : Int32)) S164 ⟨by decide, by decide⟩
        obtain ⟨T167, X167, e167, st167⟩ := gF X162 hx hZ hown (ww hw 24 rfl) e162 fk161 (g := (mkF m 88 #[vR a1, vI 4, vI (-1), vI 4, vI 0, vR s0, vI 2, vI 3] [iR a1])) rfl rfl (hb hby d7_88)
        have hin168 := inb_of (j := (0 : Int32)) S164 ⟨by decide, by decide⟩
        obtain ⟨T169, h169, X169, e169, W169, st169⟩ := stI X167 hx hZ e167 Ar164 (j := (0 : Int32)) hin168 (g := (mkF m 95 #[vR a1, vI 4, vI (-1), vI 4, vI 0, vR s0, vI 2, vI 3] [iI 2, iI 0, iR bn])) rfl rfl (hb hby d7_95)
        have V169 : Arv Z h169 bn kn .int (16 : Int32) (own_bs [2, 1, 2, 0, 0, 0, 0, 0, 0, 0, 0, 0, 0, 0, 0, 0]) (.int (0 : Int32)) := Arv.set Ar164 q164 S164 M164 H164 G164 rfl W169 0 rfl (Nat.le_of_ble_eq_true rfl)
        have K169 : Keep h0 h169 [a1, bc, bn, s0, s1, s2] := K160.wr W169 (Or.inl (List.mem_of_getElem? (i := 2) rfl))
        have N169 := Fr.snoc X169 N160 g_bn
        have fk170 := (((F_children.other W145 (Or.inl ne_a1_s0)).other W160 (Or.inl ne_a1_s0)).other W169 (Or.inl ne_a1_bn))
        obtain ⟨T171, X171, e171, st171⟩ := gF X169 hx hZ hown (ww hw 22 rfl) e169 fk170 (g := (mkF m 100 #[vR a1, vI 4, vI 0, vI 4, vI 0, vR s0, vI 2, vI 3] [iR a1])) rfl rfl (hb hby d7_100)
        have fk172 := (((V_bc.other W145 ne_bc_s0).other W160 ne_bc_s0).other W169 ne_bc_bn)
        obtain ⟨cl173, Ar173, q173, S173, M173, H173, G173⟩ := id fk172
        have hin174 := inb_of (j := (4 : Int32)) S173 ⟨by decide, by decide⟩
        obtain ⟨T175, h175, X175, e175, W175, st175⟩ := stR X171 hx hZ e171 Ar173 (j := (4 : Int32)) (v := .null) hin174 rfl (Or.inl rfl) (g := (mkF m 105 #[vR a1, vI 4, vI 0, vI 4, vI 0, vR s0, vI 2, vI 3] [.null, iI 4, iR bc])) rfl rfl (hb hby d7_105)
        have V175 : Arv Z h175 bc kc (.array .int) (16 : Int32) [(.ref s0), (.ref s1), (.ref s2), .null, .null, .null, .null, .null, .null, .null, .null, .null, .null, .null, .null, .null] .null := Arv.set Ar173 q173 S173 M173 H173 G173 rfl W175 4 rfl (Nat.le_of_ble_eq_true rfl)
        have K175 : Keep h0 h175 [a1, bc, bn, s0, s1, s2] := K169.wr W175 (Or.inl (List.mem_of_getElem? (i := 1) rfl))
        have N175 := Fr.snoc X175 N169 g_bc
        have fk176 := ((fk161.other W169 (Or.inl ne_a1_bn)).other W175 (Or.inl ne_a1_bc))
        obtain ⟨T177, X177, e177, st177⟩ := gF X175 hx hZ hown (ww hw 24 rfl) e175 fk176 (g := (mkF m 107 #[vR a1, vI 4, vI 0, vI 4, vI 0, vR s0, vI 2, vI 3] [iR a1])) rfl rfl (hb hby d7_107)
        have fk178 := (V169.other W175 (Ne.symm ne_bc_bn))
        obtain ⟨cl179, Ar179, q179, S179, M179, H179, G179⟩ := id fk178
        have hin180 := inb_of (j := (4 : Int32)) S179 ⟨by decide, by decide⟩
        obtain ⟨T181, h181, X181, e181, W181, st181⟩ := stI X177 hx hZ e177 Ar179 (j := (4 : Int32)) hin180 (g := (mkF m 112 #[vR a1, vI 4, vI 0, vI 4, vI 0, vR s0, vI 2, vI 3] [iI 0, iI 4, iR bn])) rfl rfl (hb hby d7_112)
        have V181 : Arv Z h181 bn kn .int (16 : Int32) (own_bs [2, 1, 2, 0, 0, 0, 0, 0, 0, 0, 0, 0, 0, 0, 0, 0]) (.int (0 : Int32)) := Arv.set Ar179 q179 S179 M179 H179 G179 rfl W181 4 rfl (Nat.le_of_ble_eq_true rfl)
        have K181 : Keep h0 h181 [a1, bc, bn, s0, s1, s2] := K175.wr W181 (Or.inl (List.mem_of_getElem? (i := 2) rfl))
        have N181 := Fr.snoc X181 N175 g_bn
        have fk182 := (((((E_a1.wr W145).wr W160).wr W169).wr W175).wr W181)
        have fk183 := (((((F_size.other W145 (Or.inl ne_a1_s0)).other W160 (Or.inl ne_a1_s0)).other W169 (Or.inl ne_a1_bn)).other W175 (Or.inl ne_a1_bc)).other W181 (Or.inl ne_a1_bn))
        have fk184 := (((((F_items.other W145 (Or.inl ne_a1_s0)).other W160 (Or.inl ne_a1_s0)).other W169 (Or.inl ne_a1_bn)).other W175 (Or.inl ne_a1_bc)).other W181 (Or.inl ne_a1_bn))
        have fk185 := (((((V_bi.other W145 ne_bi_s0).other W160 ne_bi_s0).other W169 ne_bi_bn).other W175 ne_bi_bc).other W181 ne_bi_bn)
        have fk186 := (((((F_sameEvents.other W145 (Or.inl ne_a1_s0)).other W160 (Or.inl ne_a1_s0)).other W169 (Or.inl ne_a1_bn)).other W175 (Or.inl ne_a1_bc)).other W181 (Or.inl ne_a1_bn))
        have fk187 := (((((V_bf.other W145 ne_bf_s0).other W160 ne_bf_s0).other W169 ne_bf_bn).other W175 ne_bf_bc).other W181 ne_bf_bn)
        have fk188 := (((((F_parents.other W145 (Or.inl ne_a1_s0)).other W160 (Or.inl ne_a1_s0)).other W169 (Or.inl ne_a1_bn)).other W175 (Or.inl ne_a1_bc)).other W181 (Or.inl ne_a1_bn))
        have fk189 := (((((V_bp.other W145 ne_bp_s0).other W160 ne_bp_s0).other W169 ne_bp_bn).other W175 ne_bp_bc).other W181 ne_bp_bn)
        have fk190 := ((fk170.other W175 (Or.inl ne_a1_bc)).other W181 (Or.inl ne_a1_bn))
        have fk191 := (V175.other W181 ne_bc_bn)
        have fk192 := (fk176.other W181 (Or.inl ne_a1_bn))
        have fk193 := (((V160.other W169 (Ne.symm ne_bn_s0)).other W175 (Ne.symm ne_bc_s0)).other W181 (Ne.symm ne_bn_s0))
        have fk194 := (((((E_s0.wr W145).wr W160).wr W169).wr W175).wr W181)
        have fk195 := (((((V_s1.other W145 (Ne.symm ne_s0_s1)).other W160 (Ne.symm ne_s0_s1)).other W169 (Ne.symm ne_bn_s1)).other W175 (Ne.symm ne_bc_s1)).other W181 (Ne.symm ne_bn_s1))
        have fk196 := (((((E_s1.wr W145).wr W160).wr W169).wr W175).wr W181)
        have fk197 := (((((V_s2.other W145 (Ne.symm ne_s0_s2)).other W160 (Ne.symm ne_s0_s2)).other W169 (Ne.symm ne_bn_s2)).other W175 (Ne.symm ne_bc_s2)).other W181 (Ne.symm ne_bn_s2))
        have fk198 := (((((E_s2.wr W145).wr W160).wr W169).wr W175).wr W181)
        have pre199 : ∀ t, Steps p.tables e below (T181.setTop (mkF m 4 #[vR a1, vI 4, vI 0, vI 5, vI 0, vR s0, vI 2, vI 3] [])) t → Steps p.tables e below (s₁.setTop (entryFrame m #[(.ref a1), (.int (4 : Int32))] 8)) t := by
          intro t kt
          refine pre156 t ?_
          refine XS.icmpNo X147.here hx rfl (hb hby d7_65) rfl (tlt hc155).2.1 ?_
          refine XS.aload X147.here hx rfl (hb hby d7_68) rfl rfl ?_
          refine XS.iload X147.here hx rfl (hb hby d7_70) rfl ?_
          refine XS.iinc X147.here hx rfl (hb hby d7_72) rfl (l' := #[vR a1, vI 4, vI (-1), vI 4, vI 0, vR s0, vI ((1 : Int32) + (1 : Int32)), vI 2]) rfl ?_
          rw [(by decide : ((1 : Int32) + (1 : Int32)) = (2 : Int32))]
          refine XS.aload X147.here hx rfl (hb hby d7_75) rfl rfl ?_
          refine XS.iload X147.here hx rfl (hb hby d7_77) rfl ?_
          show SA T147 m 79 #[vR a1, vI 4, vI (-1), vI 4, vI 0, vR s0, vI 2, vI 2] [iI 2, iR s0, iI 1, iR s0]
          refine X147.iaload hx (j := (2 : Int32)) (v := (.int x2_)) (by rw [e147]; exact Ar152.1) (State.isArrayOf_alike hZ.alike Ar152.2.1) Ar152.2.2 hin157 (Has.at H152 hin157 rfl) (g := (mkF m 79 #[vR a1, vI 4, vI (-1), vI 4, vI 0, vR s0, vI 2, vI 2] [iI 2, iR s0, iI 1, iR s0])) rfl rfl (hb hby d7_79) _ ?_
          refine st160 _ ?_
          refine XS.iinc X160.here hx rfl (hb hby d7_81) rfl (l' := #[vR a1, vI 4, vI (-1), vI 4, vI 0, vR s0, vI 2, vI ((2 : Int32) + (1 : Int32))]) rfl ?_
          rw [(by decide : ((2 : Int32) + (1 : Int32)) = (3 : Int32))]
          refine XS.goto X160.here hx rfl (pc0 := 84) (pc' := 47) rfl (hb hby d7_84) (by decide) (by decide) ?_
          refine XS.iload X160.here hx rfl (hb hby d7_47) rfl ?_
          refine XS.aloadN X160.here hx rfl (hb hby d7_49) rfl rfl ?_
          refine st162 _ ?_
          refine XS.iload X162.here hx rfl (hb hby d7_53) rfl ?_
          refine X162.iaload hx (j := (0 : Int32)) (v := (.int (3 : Int32))) (by rw [e162]; exact Ar164.1) (State.isArrayOf_alike hZ.alike Ar164.2.1) Ar164.2.2 hin165 (Has.at H164 hin165 rfl) (g := (mkF m 55 #[vR a1, vI 4, vI (-1), vI 4, vI 0, vR s0, vI 2, vI 3] [iI 0, iR bn, iI 3])) rfl rfl (hb hby d7_55) _ ?_
          refine XS.icmpYes X162.here hx rfl (pc0 := 56) (pc' := 87) rfl (hb hby d7_56) rfl (flt (by decide : ¬ ((3 : Int32) < (3 : Int32)))).2.1 (by decide) (by decide) ?_
          refine XS.aloadN X162.here hx rfl (hb hby d7_87) rfl rfl ?_
          refine st167 _ ?_
          refine XS.iload X167.here hx rfl (hb hby d7_91) rfl ?_
          refine XS.iload X167.here hx rfl (hb hby d7_93) rfl ?_
          refine st169 _ ?_
          refine XS.iload X169.here hx rfl (hb hby d7_96) rfl ?_
          refine XS.istoreN X169.here hx rfl (hb hby d7_98) rfl (l' := #[vR a1, vI 4, vI 0, vI 4, vI 0, vR s0, vI 2, vI 3]) rfl ?_
          refine XS.aloadN X169.here hx rfl (hb hby d7_99) rfl rfl ?_
          refine st171 _ ?_
          refine XS.iloadN X171.here hx rfl (hb hby d7_103) rfl ?_
          refine XS.aconstNull X171.here hx rfl (hb hby d7_104) ?_
          refine st175 _ ?_
          refine XS.aloadN X175.here hx rfl (hb hby d7_106) rfl rfl ?_
          refine st177 _ ?_
          refine XS.iloadN X177.here hx rfl (hb hby d7_110) rfl ?_
          refine XS.iconst X177.here hx rfl (hb hby d7_111) ?_
          refine st181 _ ?_
          refine XS.iinc X181.here hx rfl (hb hby d7_113) rfl (l' := #[vR a1, vI 4, vI 0, vI ((4 : Int32) + (1 : Int32)), vI 0, vR s0, vI 2, vI 3]) rfl ?_
          rw [(by decide : ((4 : Int32) + (1 : Int32)) = (5 : Int32))]
          refine XS.goto X181.here hx rfl (pc0 := 116) (pc' := 4) rfl (hb hby d7_116) (by decide) (by decide) ?_
          exact kt
        obtain ⟨s₂, o₂, hs₂, hr₂⟩ := own_t7_x (K_ := (4 : Int32)) (n1_ := (1 : Int32)) (IL := IL) (FL := FL) (x0_ := x0_) (x1_ := x1_) (x2_ := x2_) (x3_ := x3_) (w0_ := x1_) (w1_ := x2_) (w2_ := x2_) (w3_ := x3_) (y1_ := y1_) (y2_ := y2_) (y3_ := y3_) (z0_ := z0_) (z1_ := z1_) (z2_ := z2_) (z3_ := z3_) X181 hx hZ hw hby hml hown Bd.returns (by first | assumption | exact BodyLoose.notSynchronized (by assumption) | exact Body.notSynchronized (by assumption)) e181 K181 N181 Z0 fk182 fk183 fk184 fk185 fk186 fk187 fk188 fk189 fk190 fk191 fk192 V181 fk193 fk194 fk195 fk196 fk197 fk198 hpr1 hpr2 hpr3 hpr4 hpr5 hpr6 g_a1 g_bi g_bf g_bp g_bc g_bn g_s0 g_s1 g_s2 ne_a1_bi ne_a1_bf ne_a1_bp ne_a1_bc ne_a1_bn ne_a1_s0 ne_a1_s1 ne_a1_s2 ne_bi_bf ne_bi_bp ne_bi_bc ne_bi_bn ne_bi_s0 ne_bi_s1 ne_bi_s2 ne_bf_bp ne_bf_bc ne_bf_bn ne_bf_s0 ne_bf_s1 ne_bf_s2 ne_bp_bc ne_bp_bn ne_bp_s0 ne_bp_s1 ne_bp_s2 ne_bc_bn ne_bc_s0 ne_bc_s1 ne_bc_s2 ne_bn_s0 ne_bn_s1 ne_bn_s2 ne_s0_s1 ne_s0_s2 ne_s1_s2 (by decide) h_z0_ h_z1_ ⟨fun _ => ⟨rfl, rfl⟩, fun h => absurd hc140 h, fun h => absurd hc155 h⟩
        exact ⟨s₂, o₂, pre199 _ hs₂, hr₂⟩
      · exfalso; exact absurd hpat (by simp only [hc17, hc140, hc155, or_false, or_true, true_or, false_or, and_true, true_and, false_and, and_false, not_true_eq_false, not_false_eq_true])
    · exfalso; exact absurd hpat (by simp only [hc17, hc140, or_false, or_true, true_or, false_or, and_true, true_and, false_and, and_false, not_true_eq_false, not_false_eq_true])
theorem ef_7_5 (m : MethodId) (x0 : Addr) : entryFrame m #[(.ref x0), (.int (5 : Int32))] 8 = mkF m 0 #[.val (.ref x0), .val (.int (5 : Int32)), .unset, .unset, .unset, .unset, .unset, .unset] [] := by first | (simp [entryFrame, mkF, argsToLocals, Value.category]; done) | rfl
def Q7_5 (Z : State) (a1 : Addr) (bi bf bp bc bn : Addr) (ki kf kp kc kn : ClassId) (IL FL PL : List Int32) (s0 s1 s2 : Addr) (q0 q1 q2 : ClassId) (x0_ x1_ x2_ x3_ y1_ y2_ y3_ z0_ z1_ z2_ z3_ : Int32) (h0 : Heap) (n0 : Nat) (v : Option Value) (h : Heap) (L : List Loc) : Prop := own_QT5 Z a1 bi bf bp bc bn ki kf kp kc kn IL FL PL s0 s1 s2 q0 q1 q2 x0_ x1_ x2_ x3_ y1_ y2_ y3_ z0_ z1_ z2_ z3_ h0 n0 v h L
theorem rm7_5 (l : Launch) (Z : State) (a0 : Array Value) (hw : ∀ d ∈ tables_1, d.before a0 Z = true) (ws : List Jvm.Cond) (a1 : Addr) (bi bf bp bc bn : Addr) (ki kf kp kc kn : ClassId) (IL FL PL : List Int32) (s0 s1 s2 : Addr) (q0 q1 q2 : ClassId) (x0_ x1_ x2_ x3_ y1_ y2_ y3_ z0_ z1_ z2_ z3_ : Int32) (h0 : Heap) (n0 : Nat) (Z0 : n0 ≤ h0.size) (E_a1 : Exa Z h0 a1 "com/example/tidemine/tidemine/PatternTrie") (F_size : Fld Z h0 a1 "com/example/tidemine/tidemine/PatternTrie" "size" "I" (.int (7 : Int32))) (F_items : Fld Z h0 a1 "com/example/tidemine/tidemine/PatternTrie" "items" "[I" (.ref bi)) (V_bi : Arv Z h0 bi ki .int (16 : Int32) (own_bs IL) (.int (0 : Int32))) (F_sameEvents : Fld Z h0 a1 "com/example/tidemine/tidemine/PatternTrie" "sameEvents" "[Z" (.ref bf)) (V_bf : Arv Z h0 bf kf .boolean (16 : Int32) (own_bs FL) (.int (0 : Int32))) (F_parents : Fld Z h0 a1 "com/example/tidemine/tidemine/PatternTrie" "parents" "[I" (.ref bp)) (V_bp : Arv Z h0 bp kp .int (16 : Int32) (own_bs PL) (.int (0 : Int32))) (F_children : Fld Z h0 a1 "com/example/tidemine/tidemine/PatternTrie" "children" "[[I" (.ref bc)) (V_bc : Arv Z h0 bc kc (.array .int) (16 : Int32) [(.ref s0), (.ref s1), (.ref s2), .null, .null, .null, .null, .null, .null, .null, .null, .null, .null, .null, .null, .null] .null) (F_childCounts : Fld Z h0 a1 "com/example/tidemine/tidemine/PatternTrie" "childCounts" "[I" (.ref bn)) (V_bn : Arv Z h0 bn kn .int (16 : Int32) (own_bs [3, 1, 2, 0, 0, 0, 0, 0, 0, 0, 0, 0, 0, 0, 0, 0]) (.int (0 : Int32))) (V_s0 : Arv Z h0 s0 q0 .int (4 : Int32) (own_bs [x0_, x1_, x2_, x3_]) (.int (0 : Int32))) (E_s0 : Exa Z h0 s0 "[I") (V_s1 : Arv Z h0 s1 q1 .int (4 : Int32) (own_bs [3, y1_, y2_, y3_]) (.int (0 : Int32))) (E_s1 : Exa Z h0 s1 "[I") (V_s2 : Arv Z h0 s2 q2 .int (4 : Int32) (own_bs [z0_, z1_, z2_, z3_]) (.int (0 : Int32))) (E_s2 : Exa Z h0 s2 "[I") (hpr1 : PL.getD 1 0 = (0 : Int32)) (hpr2 : PL.getD 2 0 = (0 : Int32)) (hpr3 : PL.getD 3 0 = (1 : Int32)) (hpr4 : PL.getD 4 0 = (0 : Int32)) (hpr5 : PL.getD 5 0 = (2 : Int32)) (hpr6 : PL.getD 6 0 = (2 : Int32)) (g_a1 : n0 ≤ a1) (g_bi : n0 ≤ bi) (g_bf : n0 ≤ bf) (g_bp : n0 ≤ bp) (g_bc : n0 ≤ bc) (g_bn : n0 ≤ bn) (g_s0 : n0 ≤ s0) (g_s1 : n0 ≤ s1) (g_s2 : n0 ≤ s2) (ne_a1_bi : a1 ≠ bi) (ne_a1_bf : a1 ≠ bf) (ne_a1_bp : a1 ≠ bp) (ne_a1_bc : a1 ≠ bc) (ne_a1_bn : a1 ≠ bn) (ne_a1_s0 : a1 ≠ s0) (ne_a1_s1 : a1 ≠ s1) (ne_a1_s2 : a1 ≠ s2) (ne_bi_bf : bi ≠ bf) (ne_bi_bp : bi ≠ bp) (ne_bi_bc : bi ≠ bc) (ne_bi_bn : bi ≠ bn) (ne_bi_s0 : bi ≠ s0) (ne_bi_s1 : bi ≠ s1) (ne_bi_s2 : bi ≠ s2) (ne_bf_bp : bf ≠ bp) (ne_bf_bc : bf ≠ bc) (ne_bf_bn : bf ≠ bn) (ne_bf_s0 : bf ≠ s0) (ne_bf_s1 : bf ≠ s1) (ne_bf_s2 : bf ≠ s2) (ne_bp_bc : bp ≠ bc) (ne_bp_bn : bp ≠ bn) (ne_bp_s0 : bp ≠ s0) (ne_bp_s1 : bp ≠ s1) (ne_bp_s2 : bp ≠ s2) (ne_bc_bn : bc ≠ bn) (ne_bc_s0 : bc ≠ s0) (ne_bc_s1 : bc ≠ s1) (ne_bc_s2 : bc ≠ s2) (ne_bn_s0 : bn ≠ s0) (ne_bn_s1 : bn ≠ s1) (ne_bn_s2 : bn ≠ s2) (ne_s0_s1 : s0 ≠ s1) (ne_s0_s2 : s0 ≠ s2) (ne_s1_s2 : s1 ≠ s2) (h_z0_ : ¬ (z0_ < (5 : Int32))) (h_z1_ : ¬ (z1_ < (5 : Int32))) :
    MetFree l mn_4 (head1 (Jvm.Cond.code mn_4 prog_23_method_4_code 8 none :: ws) ({ frames := 0, cells := 0, slots := 0, locals := 0 } : Room)) (fun a U => a = #[(.ref a1), (.int (5 : Int32))] ∧ Z.Warmed39 U.vm ∧ U.heap = h0) (fun _ _ _ _ _ => True) (fun _ U o U' => ∃ v L, o = .returned v ∧ Q7_5 Z a1 bi bf bp bc bn ki kf kp kc kn IL FL PL s0 s1 s2 q0 q1 q2 x0_ x1_ x2_ x3_ y1_ y2_ y3_ z0_ z1_ z2_ z3_ h0 n0 v U'.heap L ∧ FrameEnd U o U' L ({ frames := 0, cells := 0, slots := 0, locals := 0 } : Room).cells ({ frames := 0, cells := 0, slots := 0, locals := 0 } : Room).slots) := by
  refine MetFree.of_bodySF (plainFor_of_name pn_2) hisR ?_
  intro p e s m args below meth c s₁ Bd hml0 hP hK
  obtain ⟨rfl, hZ, hh⟩ := hP
  have hx := Bd.exec
  have hby := Bd.bytes
  have hml : c.maxLocals = 8 := hml0
  have hown : s.vm.findClass "com/example/tidemine/tidemine/PatternTrie" = some m.cls := findClass_of_methodNamed Bd.named
  have hnm := (name_of_methodNamed Bd.named Bd.method).1
  have X0 : Stand p l e ({ frames := 0, cells := 0, slots := 0, locals := 0 } : Room) s m #[(.ref a1), (.int (5 : Int32))] below meth c s₁ [] 0 0 := Stand.of_body Bd
  have e0 : s₁.heap = h0 := by rw [← hh, Bd.state]; rfl
  have N0 := Fr.nil n0
  have K0 := Keep.refl h0 [a1, bc, bn, s0, s1, s2]
  have pre0 : ∀ t, Steps p.tables e below (s₁.setTop (mkF m 0 #[.val (.ref a1), .val (.int (5 : Int32)), .unset, .unset, .unset, .unset, .unset, .unset] [])) t → Steps p.tables e below (s₁.setTop (entryFrame m #[(.ref a1), (.int (5 : Int32))] 8)) t := fun t k => castTop (ef_7_5 m a1) k
  obtain ⟨T1, X1, e1, st1⟩ := gF X0 hx hZ hown (ww hw 10 rfl) e0 F_size (g := (mkF m 6 #[vR a1, vI 5, vI (-1), vI 5, .unset, .unset, .unset, .unset] [iR a1, iI 5])) rfl rfl (hb hby d7_6)
  obtain ⟨T2, X2, e2, st2⟩ := gF X1 hx hZ hown (ww hw 18 rfl) e1 F_parents (g := (mkF m 13 #[vR a1, vI 5, vI (-1), vI 5, .unset, .unset, .unset, .unset] [iR a1])) rfl rfl (hb hby d7_13)
  obtain ⟨cl3, Ar3, q3, S3, M3, H3, G3⟩ := id V_bp
  have hin4 := inb_of (j := (5 : Int32)) S3 ⟨by decide, by decide⟩
  have hat5 : cl3.slots[((5 : Int32)).toNatClampNeg]? = some (.int (2 : Int32)) := Has.at H3 hin4 (by rw [own_bsget]; exact congrArg Value.int hpr5)
  obtain ⟨T6, X6, e6, st6⟩ := gF X2 hx hZ hown (ww hw 22 rfl) e2 F_children (g := (mkF m 33 #[vR a1, vI 5, vI (-1), vI 5, vI 2, .unset, .unset, .unset] [iR a1])) rfl rfl (hb hby d7_33)
  obtain ⟨cl7, Ar7, q7, S7, M7, H7, G7⟩ := id V_bc
  have hin8 := inb_of (j := (2 : Int32)) S7 ⟨by decide, by decide⟩
  obtain ⟨T10, X10, e10, st10⟩ := gF X6 hx hZ hown (ww hw 24 rfl) e6 F_childCounts (g := (mkF m 50 #[vR a1, vI 5, vI (-1), vI 5, vI 2, vR s2, vI 0, vI 0] [iR a1, iI 0])) rfl rfl (hb hby d7_50)
  obtain ⟨cl11, Ar11, q11, S11, M11, H11, G11⟩ := id V_bn
  have hin12 := inb_of (j := (2 : Int32)) S11 ⟨by decide, by decide⟩
  obtain ⟨cl14, Ar14, q14, S14, M14, H14, G14⟩ := id V_s2
  have hin15 := inb_of (j := (0 : Int32)) S14 ⟨by decide, by decide⟩
  obtain ⟨T17, X17, e17, st17⟩ := gF X10 hx hZ hown (ww hw 24 rfl) e10 F_childCounts (g := (mkF m 50 #[vR a1, vI 5, vI (-1), vI 5, vI 2, vR s2, vI 0, vI 1] [iR a1, iI 1])) rfl rfl (hb hby d7_50)
  have hin18 := inb_of (j := (2 : Int32)) S11 ⟨by decide, by decide⟩
  have hin20 := inb_of (j := (1 : Int32)) S14 ⟨by decide, by decide⟩
  obtain ⟨T22, X22, e22, st22⟩ := gF X17 hx hZ hown (ww hw 24 rfl) e17 F_childCounts (g := (mkF m 50 #[vR a1, vI 5, vI (-1), vI 5, vI 2, vR s2, vI 0, vI 2] [iR a1, iI 2])) rfl rfl (hb hby d7_50)
  have hin23 := inb_of (j := (2 : Int32)) S11 ⟨by decide, by decide⟩
  obtain ⟨T25, X25, e25, st25⟩ := gF X22 hx hZ hown (ww hw 24 rfl) e22 F_childCounts (g := (mkF m 88 #[vR a1, vI 5, vI (-1), vI 5, vI 2, vR s2, vI 0, vI 2] [iR a1])) rfl rfl (hb hby d7_88)
  have hin26 := inb_of (j := (2 : Int32)) S11 ⟨by decide, by decide⟩
  obtain ⟨T27, h27, X27, e27, W27, st27⟩ := stI X25 hx hZ e25 Ar11 (j := (2 : Int32)) hin26 (g := (mkF m 95 #[vR a1, vI 5, vI (-1), vI 5, vI 2, vR s2, vI 0, vI 2] [iI 0, iI 2, iR bn])) rfl rfl (hb hby d7_95)
  have V27 : Arv Z h27 bn kn .int (16 : Int32) (own_bs [3, 1, 0, 0, 0, 0, 0, 0, 0, 0, 0, 0, 0, 0, 0, 0]) (.int (0 : Int32)) := Arv.set Ar11 q11 S11 M11 H11 G11 rfl W27 2 rfl (Nat.le_of_ble_eq_true rfl)
  have K27 : Keep h0 h27 [a1, bc, bn, s0, s1, s2] := K0.wr W27 (Or.inl (List.mem_of_getElem? (i := 2) rfl))
  have N27 := Fr.snoc X27 N0 g_bn
  have fk28 := (F_children.other W27 (Or.inl ne_a1_bn))
  obtain ⟨T29, X29, e29, st29⟩ := gF X27 hx hZ hown (ww hw 22 rfl) e27 fk28 (g := (mkF m 100 #[vR a1, vI 5, vI 2, vI 5, vI 2, vR s2, vI 0, vI 2] [iR a1])) rfl rfl (hb hby d7_100)
  have fk30 := (V_bc.other W27 ne_bc_bn)
  obtain ⟨cl31, Ar31, q31, S31, M31, H31, G31⟩ := id fk30
  have hin32 := inb_of (j := (5 : Int32)) S31 ⟨by decide, by decide⟩
  obtain ⟨T33, h33, X33, e33, W33, st33⟩ := stR X29 hx hZ e29 Ar31 (j := (5 : Int32)) (v := .null) hin32 rfl (Or.inl rfl) (g := (mkF m 105 #[vR a1, vI 5, vI 2, vI 5, vI 2, vR s2, vI 0, vI 2] [.null, iI 5, iR bc])) rfl rfl (hb hby d7_105)
  have V33 : Arv Z h33 bc kc (.array .int) (16 : Int32) [(.ref s0), (.ref s1), (.ref s2), .null, .null, .null, .null, .null, .null, .null, .null, .null, .null, .null, .null, .null] .null := Arv.set Ar31 q31 S31 M31 H31 G31 rfl W33 5 rfl (Nat.le_of_ble_eq_true rfl)
  have K33 : Keep h0 h33 [a1, bc, bn, s0, s1, s2] := K27.wr W33 (Or.inl (List.mem_of_getElem? (i := 1) rfl))
  have N33 := Fr.snoc X33 N27 g_bc
  have fk34 := ((F_childCounts.other W27 (Or.inl ne_a1_bn)).other W33 (Or.inl ne_a1_bc))
  obtain ⟨T35, X35, e35, st35⟩ := gF X33 hx hZ hown (ww hw 24 rfl) e33 fk34 (g := (mkF m 107 #[vR a1, vI 5, vI 2, vI 5, vI 2, vR s2, vI 0, vI 2] [iR a1])) rfl rfl (hb hby d7_107)
  have fk36 := (V27.other W33 (Ne.symm ne_bc_bn))
  obtain ⟨cl37, Ar37, q37, S37, M37, H37, G37⟩ := id fk36
  have hin38 := inb_of (j := (5 : Int32)) S37 ⟨by decide, by decide⟩
  obtain ⟨T39, h39, X39, e39, W39, st39⟩ := stI X35 hx hZ e35 Ar37 (j := (5 : Int32)) hin38 (g := (mkF m 112 #[vR a1, vI 5, vI 2, vI 5, vI 2, vR s2, vI 0, vI 2] [iI 0, iI 5, iR bn])) rfl rfl (hb hby d7_112)
  have V39 : Arv Z h39 bn kn .int (16 : Int32) (own_bs [3, 1, 0, 0, 0, 0, 0, 0, 0, 0, 0, 0, 0, 0, 0, 0]) (.int (0 : Int32)) := Arv.set Ar37 q37 S37 M37 H37 G37 rfl W39 5 rfl (Nat.le_of_ble_eq_true rfl)
  have K39 : Keep h0 h39 [a1, bc, bn, s0, s1, s2] := K33.wr W39 (Or.inl (List.mem_of_getElem? (i := 2) rfl))
  have N39 := Fr.snoc X39 N33 g_bn
  have fk40 := (((F_size.other W27 (Or.inl ne_a1_bn)).other W33 (Or.inl ne_a1_bc)).other W39 (Or.inl ne_a1_bn))
  obtain ⟨T41, X41, e41, st41⟩ := gF X39 hx hZ hown (ww hw 10 rfl) e39 fk40 (g := (mkF m 6 #[vR a1, vI 5, vI 2, vI 6, vI 2, vR s2, vI 0, vI 2] [iR a1, iI 6])) rfl rfl (hb hby d7_6)
  have fk42 := (((F_parents.other W27 (Or.inl ne_a1_bn)).other W33 (Or.inl ne_a1_bc)).other W39 (Or.inl ne_a1_bn))
  obtain ⟨T43, X43, e43, st43⟩ := gF X41 hx hZ hown (ww hw 18 rfl) e41 fk42 (g := (mkF m 13 #[vR a1, vI 5, vI 2, vI 6, vI 2, vR s2, vI 0, vI 2] [iR a1])) rfl rfl (hb hby d7_13)
  have fk44 := (((V_bp.other W27 ne_bp_bn).other W33 ne_bp_bc).other W39 ne_bp_bn)
  obtain ⟨cl45, Ar45, q45, S45, M45, H45, G45⟩ := id fk44
  have hin46 := inb_of (j := (6 : Int32)) S45 ⟨by decide, by decide⟩
  have hat47 : cl45.slots[((6 : Int32)).toNatClampNeg]? = some (.int (2 : Int32)) := Has.at H45 hin46 (by rw [own_bsget]; exact congrArg Value.int hpr6)
  have fk48 := ((fk28.other W33 (Or.inl ne_a1_bc)).other W39 (Or.inl ne_a1_bn))
  obtain ⟨T49, X49, e49, st49⟩ := gF X43 hx hZ hown (ww hw 22 rfl) e43 fk48 (g := (mkF m 100 #[vR a1, vI 5, vI 2, vI 6, vI 2, vR s2, vI 0, vI 2] [iR a1])) rfl rfl (hb hby d7_100)
  have fk50 := (V33.other W39 ne_bc_bn)
  obtain ⟨cl51, Ar51, q51, S51, M51, H51, G51⟩ := id fk50
  have hin52 := inb_of (j := (6 : Int32)) S51 ⟨by decide, by decide⟩
  obtain ⟨T53, h53, X53, e53, W53, st53⟩ := stR X49 hx hZ e49 Ar51 (j := (6 : Int32)) (v := .null) hin52 rfl (Or.inl rfl) (g := (mkF m 105 #[vR a1, vI 5, vI 2, vI 6, vI 2, vR s2, vI 0, vI 2] [.null, iI 6, iR bc])) rfl rfl (hb hby d7_105)
  have V53 : Arv Z h53 bc kc (.array .int) (16 : Int32) [(.ref s0), (.ref s1), (.ref s2), .null, .null, .null, .null, .null, .null, .null, .null, .null, .null, .null, .null, .null] .null := Arv.set Ar51 q51 S51 M51 H51 G51 rfl W53 6 rfl (Nat.le_of_ble_eq_true rfl)
  have K53 : Keep h0 h53 [a1, bc, bn, s0, s1, s2] := K39.wr W53 (Or.inl (List.mem_of_getElem? (i := 1) rfl))
  have N53 := Fr.snoc X53 N39 g_bc
  have fk54 := ((fk34.other W39 (Or.inl ne_a1_bn)).other W53 (Or.inl ne_a1_bc))
  obtain ⟨T55, X55, e55, st55⟩ := gF X53 hx hZ hown (ww hw 24 rfl) e53 fk54 (g := (mkF m 107 #[vR a1, vI 5, vI 2, vI 6, vI 2, vR s2, vI 0, vI 2] [iR a1])) rfl rfl (hb hby d7_107)
  have fk56 := (V39.other W53 (Ne.symm ne_bc_bn))
  obtain ⟨cl57, Ar57, q57, S57, M57, H57, G57⟩ := id fk56
  have hin58 := inb_of (j := (6 : Int32)) S57 ⟨by decide, by decide⟩
  obtain ⟨T59, h59, X59, e59, W59, st59⟩ := stI X55 hx hZ e55 Ar57 (j := (6 : Int32)) hin58 (g := (mkF m 112 #[vR a1, vI 5, vI 2, vI 6, vI 2, vR s2, vI 0, vI 2] [iI 0, iI 6, iR bn])) rfl rfl (hb hby d7_112)
  have V59 : Arv Z h59 bn kn .int (16 : Int32) (own_bs [3, 1, 0, 0, 0, 0, 0, 0, 0, 0, 0, 0, 0, 0, 0, 0]) (.int (0 : Int32)) := Arv.set Ar57 q57 S57 M57 H57 G57 rfl W59 6 rfl (Nat.le_of_ble_eq_true rfl)
  have K59 : Keep h0 h59 [a1, bc, bn, s0, s1, s2] := K53.wr W59 (Or.inl (List.mem_of_getElem? (i := 2) rfl))
  have N59 := Fr.snoc X59 N53 g_bn
  have fk60 := ((fk40.other W53 (Or.inl ne_a1_bc)).other W59 (Or.inl ne_a1_bn))
  obtain ⟨T61, X61, e61, st61⟩ := gF X59 hx hZ hown (ww hw 10 rfl) e59 fk60 (g := (mkF m 6 #[vR a1, vI 5, vI 2, vI 7, vI 2, vR s2, vI 0, vI 2] [iR a1, iI 7])) rfl rfl (hb hby d7_6)
  have fk62 := (((((E_a1.wr W27).wr W33).wr W39).wr W53).wr W59)
  obtain ⟨T63, h63, X63, e63, W63, st63⟩ := putF X61 hx hZ hown (host := "") (Or.inl (ww hw 10 rfl)) Via.refl e61 fk60 fk62 (Or.inl (ww hw 11 rfl)) (ww hw 2 rfl) (ty := .int) (by decide) rfl rfl (g := (mkF m 121 #[vR a1, vI 5, vI 2, vI 7, vI 2, vR s2, vI 0, vI 2] [iI 5, iR a1])) rfl rfl (hb hby d7_121)
  have Fw63 := fk60.same W63
  have K63 : Keep h0 h63 [a1, bc, bn, s0, s1, s2] := K59.wr W63 (Or.inl (List.mem_of_getElem? (i := 0) rfl))
  have N63 := Fr.snoc X63 N59 g_a1
  obtain ⟨fs, hr, hrun, hended, hW, hsame⟩ := X63.leave (v := none) (fun _ => rfl)
  have fk64 := (fk62.wr W63)
  have fk65 := ((((((F_items.other W27 (Or.inl ne_a1_bn)).other W33 (Or.inl ne_a1_bc)).other W39 (Or.inl ne_a1_bn)).other W53 (Or.inl ne_a1_bc)).other W59 (Or.inl ne_a1_bn)).other W63 (Or.inr (slot_ne (Or.inl (ww hw 14 rfl)) (Or.inl (ww hw 11 rfl)) (by decide) (t := (.array .int)) (t' := .int) (by decide) (by decide))))
  have fk66 := ((((((V_bi.other W27 ne_bi_bn).other W33 ne_bi_bc).other W39 ne_bi_bn).other W53 ne_bi_bc).other W59 ne_bi_bn).other W63 (Ne.symm ne_a1_bi))
  have fk67 := ((((((F_sameEvents.other W27 (Or.inl ne_a1_bn)).other W33 (Or.inl ne_a1_bc)).other W39 (Or.inl ne_a1_bn)).other W53 (Or.inl ne_a1_bc)).other W59 (Or.inl ne_a1_bn)).other W63 (Or.inr (slot_ne (Or.inl (ww hw 17 rfl)) (Or.inl (ww hw 11 rfl)) (by decide) (t := (.array .boolean)) (t' := .int) (by decide) (by decide))))
  have fk68 := ((((((V_bf.other W27 ne_bf_bn).other W33 ne_bf_bc).other W39 ne_bf_bn).other W53 ne_bf_bc).other W59 ne_bf_bn).other W63 (Ne.symm ne_a1_bf))
  have fk69 := (((fk42.other W53 (Or.inl ne_a1_bc)).other W59 (Or.inl ne_a1_bn)).other W63 (Or.inr (slot_ne (Or.inl (ww hw 19 rfl)) (Or.inl (ww hw 11 rfl)) (by decide) (t := (.array .int)) (t' := .int) (by decide) (by decide))))
  have fk70 := (((fk44.other W53 ne_bp_bc).other W59 ne_bp_bn).other W63 (Ne.symm ne_a1_bp))
  have fk71 := (((fk48.other W53 (Or.inl ne_a1_bc)).other W59 (Or.inl ne_a1_bn)).other W63 (Or.inr (slot_ne (Or.inl (ww hw 23 rfl)) (Or.inl (ww hw 11 rfl)) (by decide) (t := (.array (.array .int))) (t' := .int) (by decide) (by decide))))
  have fk72 := ((V53.other W59 ne_bc_bn).other W63 (Ne.symm ne_a1_bc))
  have fk73 := ((fk54.other W59 (Or.inl ne_a1_bn)).other W63 (Or.inr (slot_ne (Or.inl (ww hw 25 rfl)) (Or.inl (ww hw 11 rfl)) (by decide) (t := (.array .int)) (t' := .int) (by decide) (by decide))))
  have fk74 := (V59.other W63 (Ne.symm ne_a1_bn))
  have fk75 := ((((((V_s0.other W27 (Ne.symm ne_bn_s0)).other W33 (Ne.symm ne_bc_s0)).other W39 (Ne.symm ne_bn_s0)).other W53 (Ne.symm ne_bc_s0)).other W59 (Ne.symm ne_bn_s0)).other W63 (Ne.symm ne_a1_s0))
  have fk76 := ((((((E_s0.wr W27).wr W33).wr W39).wr W53).wr W59).wr W63)
  have fk77 := ((((((V_s1.other W27 (Ne.symm ne_bn_s1)).other W33 (Ne.symm ne_bc_s1)).other W39 (Ne.symm ne_bn_s1)).other W53 (Ne.symm ne_bc_s1)).other W59 (Ne.symm ne_bn_s1)).other W63 (Ne.symm ne_a1_s1))
  have fk78 := ((((((E_s1.wr W27).wr W33).wr W39).wr W53).wr W59).wr W63)
  have fk79 := ((((((V_s2.other W27 (Ne.symm ne_bn_s2)).other W33 (Ne.symm ne_bc_s2)).other W39 (Ne.symm ne_bn_s2)).other W53 (Ne.symm ne_bc_s2)).other W59 (Ne.symm ne_bn_s2)).other W63 (Ne.symm ne_a1_s2))
  have fk80 := ((((((E_s2.wr W27).wr W33).wr W39).wr W53).wr W59).wr W63)
  refine ⟨_, _, pre0 _ ?_, hrun, hended, _, _, rfl, ?_, ⟨_, rfl⟩, hW, hsame.mono (by decide) (by decide)⟩
  · refine XS.iconst X0.here hx rfl (hb hby d7_0) ?_
    refine XS.istoreN X0.here hx rfl (hb hby d7_1) rfl (l' := #[vR a1, vI 5, vI (-1), .unset, .unset, .unset, .unset, .unset]) rfl ?_
    refine XS.iloadN X0.here hx rfl (hb hby d7_2) rfl ?_
    refine XS.istoreN X0.here hx rfl (hb hby d7_3) rfl (l' := #[vR a1, vI 5, vI (-1), vI 5, .unset, .unset, .unset, .unset]) rfl ?_
    refine XS.iloadN X0.here hx rfl (hb hby d7_4) rfl ?_
    refine XS.aloadN X0.here hx rfl (hb hby d7_5) rfl rfl ?_
    show SA s₁ m 6 #[vR a1, vI 5, vI (-1), vI 5, .unset, .unset, .unset, .unset] [iR a1, iI 5]
    refine st1 _ ?_
    refine XS.icmpNo X1.here hx rfl (hb hby d7_9) rfl (tlt (by decide : (5 : Int32) < (7 : Int32))).2.1 ?_
    refine XS.aloadN X1.here hx rfl (hb hby d7_12) rfl rfl ?_
    refine st2 _ ?_
    refine XS.iloadN X2.here hx rfl (hb hby d7_16) rfl ?_
    refine X2.iaload hx (j := (5 : Int32)) (v := (.int (2 : Int32))) (by rw [e2]; exact Ar3.1) (State.isArrayOf_alike hZ.alike Ar3.2.1) Ar3.2.2 hin4 hat5 (g := (mkF m 17 #[vR a1, vI 5, vI (-1), vI 5, .unset, .unset, .unset, .unset] [iI 5, iR bp])) rfl rfl (hb hby d7_17) _ ?_
    refine XS.istore X2.here hx rfl (hb hby d7_18) rfl (l' := #[vR a1, vI 5, vI (-1), vI 5, vI 2, .unset, .unset, .unset]) rfl ?_
    refine XS.iload X2.here hx rfl (hb hby d7_20) rfl ?_
    refine XS.iloadN X2.here hx rfl (hb hby d7_22) rfl ?_
    refine XS.icmpNo X2.here hx rfl (hb hby d7_23) rfl (tlt (by decide : (2 : Int32) < (5 : Int32))).2.1 ?_
    refine XS.iload X2.here hx rfl (hb hby d7_26) rfl ?_
    refine XS.iloadN X2.here hx rfl (hb hby d7_28) rfl ?_
    refine XS.icmpNo X2.here hx rfl (hb hby d7_29) rfl (feq (by decide : ¬ ((2 : Int32) = (-1 : Int32)))).1 ?_
    refine XS.aloadN X2.here hx rfl (hb hby d7_32) rfl rfl ?_
    show SA T2 m 33 #[vR a1, vI 5, vI (-1), vI 5, vI 2, .unset, .unset, .unset] [iR a1]
    refine st6 _ ?_
    refine XS.iload X6.here hx rfl (hb hby d7_36) rfl ?_
    refine X6.aaload hx (j := (2 : Int32)) (v := (.ref s2)) (by rw [e6]; exact Ar7.1) (State.isArrayOf_alike hZ.alike Ar7.2.1) rfl Ar7.2.2 hin8 (Has.at H7 hin8 rfl) (g := (mkF m 38 #[vR a1, vI 5, vI (-1), vI 5, vI 2, .unset, .unset, .unset] [iI 2, iR bc])) rfl rfl (hb hby d7_38) _ ?_
    refine XS.astore X6.here hx rfl (hb hby d7_39) rfl rfl (l' := #[vR a1, vI 5, vI (-1), vI 5, vI 2, vR s2, .unset, .unset]) rfl ?_
    refine XS.iconst X6.here hx rfl (hb hby d7_41) ?_
    refine XS.istore X6.here hx rfl (hb hby d7_42) rfl (l' := #[vR a1, vI 5, vI (-1), vI 5, vI 2, vR s2, vI 0, .unset]) rfl ?_
    refine XS.iconst X6.here hx rfl (hb hby d7_44) ?_
    refine XS.istore X6.here hx rfl (hb hby d7_45) rfl (l' := #[vR a1, vI 5, vI (-1), vI 5, vI 2, vR s2, vI 0, vI 0]) rfl ?_
    refine XS.iload X6.here hx rfl (hb hby d7_47) rfl ?_
    refine XS.aloadN X6.here hx rfl (hb hby d7_49) rfl rfl ?_
    refine st10 _ ?_
    refine XS.iload X10.here hx rfl (hb hby d7_53) rfl ?_
    refine X10.iaload hx (j := (2 : Int32)) (v := (.int (2 : Int32))) (by rw [e10]; exact Ar11.1) (State.isArrayOf_alike hZ.alike Ar11.2.1) Ar11.2.2 hin12 (Has.at H11 hin12 rfl) (g := (mkF m 55 #[vR a1, vI 5, vI (-1), vI 5, vI 2, vR s2, vI 0, vI 0] [iI 2, iR bn, iI 0])) rfl rfl (hb hby d7_55) _ ?_
    refine XS.icmpNo X10.here hx rfl (hb hby d7_56) rfl (tlt (by decide : (0 : Int32) < (2 : Int32))).2.1 ?_
    refine XS.aload X10.here hx rfl (hb hby d7_59) rfl rfl ?_
    refine XS.iload X10.here hx rfl (hb hby d7_61) rfl ?_
    refine X10.iaload hx (j := (0 : Int32)) (v := (.int z0_)) (by rw [e10]; exact Ar14.1) (State.isArrayOf_alike hZ.alike Ar14.2.1) Ar14.2.2 hin15 (Has.at H14 hin15 rfl) (g := (mkF m 63 #[vR a1, vI 5, vI (-1), vI 5, vI 2, vR s2, vI 0, vI 0] [iI 0, iR s2])) rfl rfl (hb hby d7_63) _ ?_
    refine XS.iloadN X10.here hx rfl (hb hby d7_64) rfl ?_
    refine XS.icmpYes X10.here hx rfl (pc0 := 65) (pc' := 81) rfl (hb hby d7_65) rfl (flt h_z0_).2.1 (by decide) (by decide) ?_
    refine XS.iinc X10.here hx rfl (hb hby d7_81) rfl (l' := #[vR a1, vI 5, vI (-1), vI 5, vI 2, vR s2, vI 0, vI ((0 : Int32) + (1 : Int32))]) rfl ?_
    rw [(by decide : ((0 : Int32) + (1 : Int32)) = (1 : Int32))]
    refine XS.goto X10.here hx rfl (pc0 := 84) (pc' := 47) rfl (hb hby d7_84) (by decide) (by decide) ?_
    refine XS.iload X10.here hx rfl (hb hby d7_47) rfl ?_
    refine XS.aloadN X10.here hx rfl (hb hby d7_49) rfl rfl ?_
    refine st17 _ ?_
    refine XS.iload X17.here hx rfl (hb hby d7_53) rfl ?_
    refine X17.iaload hx (j := (2 : Int32)) (v := (.int (2 : Int32))) (by rw [e17]; exact Ar11.1) (State.isArrayOf_alike hZ.alike Ar11.2.1) Ar11.2.2 hin18 (Has.at H11 hin18 rfl) (g := (mkF m 55 #[vR a1, vI 5, vI (-1), vI 5, vI 2, vR s2, vI 0, vI 1] [iI 2, iR bn, iI 1])) rfl rfl (hb hby d7_55) _ ?_
    refine XS.icmpNo X17.here hx rfl (hb hby d7_56) rfl (tlt (by decide : (1 : Int32) < (2 : Int32))).2.1 ?_
    refine XS.aload X17.here hx rfl (hb hby d7_59) rfl rfl ?_
    refine XS.iload X17.here hx rfl (hb hby d7_61) rfl ?_
    refine X17.iaload hx (j := (1 : Int32)) (v := (.int z1_)) (by rw [e17]; exact Ar14.1) (State.isArrayOf_alike hZ.alike Ar14.2.1) Ar14.2.2 hin20 (Has.at H14 hin20 rfl) (g := (mkF m 63 #[vR a1, vI 5, vI (-1), vI 5, vI 2, vR s2, vI 0, vI 1] [iI 1, iR s2])) rfl rfl (hb hby d7_63) _ ?_
    refine XS.iloadN X17.here hx rfl (hb hby d7_64) rfl ?_
    refine XS.icmpYes X17.here hx rfl (pc0 := 65) (pc' := 81) rfl (hb hby d7_65) rfl (flt h_z1_).2.1 (by decide) (by decide) ?_
    refine XS.iinc X17.here hx rfl (hb hby d7_81) rfl (l' := #[vR a1, vI 5, vI (-1), vI 5, vI 2, vR s2, vI 0, vI ((1 : Int32) + (1 : Int32))]) rfl ?_
    rw [(by decide : ((1 : Int32) + (1 : Int32)) = (2 : Int32))]
    refine XS.goto X17.here hx rfl (pc0 := 84) (pc' := 47) rfl (hb hby d7_84) (by decide) (by decide) ?_
    refine XS.iload X17.here hx rfl (hb hby d7_47) rfl ?_
    refine XS.aloadN X17.here hx rfl (hb hby d7_49) rfl rfl ?_
    refine st22 _ ?_
    refine XS.iload X22.here hx rfl (hb hby d7_53) rfl ?_
    refine X22.iaload hx (j := (2 : Int32)) (v := (.int (2 : Int32))) (by rw [e22]; exact Ar11.1) (State.isArrayOf_alike hZ.alike Ar11.2.1) Ar11.2.2 hin23 (Has.at H11 hin23 rfl) (g := (mkF m 55 #[vR a1, vI 5, vI (-1), vI 5, vI 2, vR s2, vI 0, vI 2] [iI 2, iR bn, iI 2])) rfl rfl (hb hby d7_55) _ ?_
    refine XS.icmpYes X22.here hx rfl (pc0 := 56) (pc' := 87) rfl (hb hby d7_56) rfl (flt (by decide : ¬ ((2 : Int32) < (2 : Int32)))).2.1 (by decide) (by decide) ?_
    refine XS.aloadN X22.here hx rfl (hb hby d7_87) rfl rfl ?_
    refine st25 _ ?_
    refine XS.iload X25.here hx rfl (hb hby d7_91) rfl ?_
    refine XS.iload X25.here hx rfl (hb hby d7_93) rfl ?_
    refine st27 _ ?_
    refine XS.iload X27.here hx rfl (hb hby d7_96) rfl ?_
    refine XS.istoreN X27.here hx rfl (hb hby d7_98) rfl (l' := #[vR a1, vI 5, vI 2, vI 5, vI 2, vR s2, vI 0, vI 2]) rfl ?_
    refine XS.aloadN X27.here hx rfl (hb hby d7_99) rfl rfl ?_
    refine st29 _ ?_
    refine XS.iloadN X29.here hx rfl (hb hby d7_103) rfl ?_
    refine XS.aconstNull X29.here hx rfl (hb hby d7_104) ?_
    refine st33 _ ?_
    refine XS.aloadN X33.here hx rfl (hb hby d7_106) rfl rfl ?_
    refine st35 _ ?_
    refine XS.iloadN X35.here hx rfl (hb hby d7_110) rfl ?_
    refine XS.iconst X35.here hx rfl (hb hby d7_111) ?_
    refine st39 _ ?_
    refine XS.iinc X39.here hx rfl (hb hby d7_113) rfl (l' := #[vR a1, vI 5, vI 2, vI ((5 : Int32) + (1 : Int32)), vI 2, vR s2, vI 0, vI 2]) rfl ?_
    rw [(by decide : ((5 : Int32) + (1 : Int32)) = (6 : Int32))]
    refine XS.goto X39.here hx rfl (pc0 := 116) (pc' := 4) rfl (hb hby d7_116) (by decide) (by decide) ?_
    refine XS.iloadN X39.here hx rfl (hb hby d7_4) rfl ?_
    refine XS.aloadN X39.here hx rfl (hb hby d7_5) rfl rfl ?_
    refine st41 _ ?_
    refine XS.icmpNo X41.here hx rfl (hb hby d7_9) rfl (tlt (by decide : (6 : Int32) < (7 : Int32))).2.1 ?_
    refine XS.aloadN X41.here hx rfl (hb hby d7_12) rfl rfl ?_
    refine st43 _ ?_
    refine XS.iloadN X43.here hx rfl (hb hby d7_16) rfl ?_
    refine X43.iaload hx (j := (6 : Int32)) (v := (.int (2 : Int32))) (by rw [e43]; exact Ar45.1) (State.isArrayOf_alike hZ.alike Ar45.2.1) Ar45.2.2 hin46 hat47 (g := (mkF m 17 #[vR a1, vI 5, vI 2, vI 6, vI 2, vR s2, vI 0, vI 2] [iI 6, iR bp])) rfl rfl (hb hby d7_17) _ ?_
    refine XS.istore X43.here hx rfl (hb hby d7_18) rfl (l' := #[vR a1, vI 5, vI 2, vI 6, vI 2, vR s2, vI 0, vI 2]) rfl ?_
    refine XS.iload X43.here hx rfl (hb hby d7_20) rfl ?_
    refine XS.iloadN X43.here hx rfl (hb hby d7_22) rfl ?_
    refine XS.icmpNo X43.here hx rfl (hb hby d7_23) rfl (tlt (by decide : (2 : Int32) < (5 : Int32))).2.1 ?_
    refine XS.iload X43.here hx rfl (hb hby d7_26) rfl ?_
    refine XS.iloadN X43.here hx rfl (hb hby d7_28) rfl ?_
    refine XS.icmpYes X43.here hx rfl (pc0 := 29) (pc' := 99) rfl (hb hby d7_29) rfl (teq (by decide : (2 : Int32) = (2 : Int32))).1 (by decide) (by decide) ?_
    refine XS.aloadN X43.here hx rfl (hb hby d7_99) rfl rfl ?_
    show SA T43 m 100 #[vR a1, vI 5, vI 2, vI 6, vI 2, vR s2, vI 0, vI 2] [iR a1]
    refine st49 _ ?_
    refine XS.iloadN X49.here hx rfl (hb hby d7_103) rfl ?_
    refine XS.aconstNull X49.here hx rfl (hb hby d7_104) ?_
    refine st53 _ ?_
    refine XS.aloadN X53.here hx rfl (hb hby d7_106) rfl rfl ?_
    refine st55 _ ?_
    refine XS.iloadN X55.here hx rfl (hb hby d7_110) rfl ?_
    refine XS.iconst X55.here hx rfl (hb hby d7_111) ?_
    refine st59 _ ?_
    refine XS.iinc X59.here hx rfl (hb hby d7_113) rfl (l' := #[vR a1, vI 5, vI 2, vI ((6 : Int32) + (1 : Int32)), vI 2, vR s2, vI 0, vI 2]) rfl ?_
    rw [(by decide : ((6 : Int32) + (1 : Int32)) = (7 : Int32))]
    refine XS.goto X59.here hx rfl (pc0 := 116) (pc' := 4) rfl (hb hby d7_116) (by decide) (by decide) ?_
    refine XS.iloadN X59.here hx rfl (hb hby d7_4) rfl ?_
    refine XS.aloadN X59.here hx rfl (hb hby d7_5) rfl rfl ?_
    refine st61 _ ?_
    refine XS.icmpYes X61.here hx rfl (pc0 := 9) (pc' := 119) rfl (hb hby d7_9) rfl (flt (by decide : ¬ ((7 : Int32) < (7 : Int32)))).2.1 (by decide) (by decide) ?_
    refine XS.aloadN X61.here hx rfl (hb hby d7_119) rfl rfl ?_
    refine XS.iloadN X61.here hx rfl (hb hby d7_120) rfl ?_
    refine st63 _ ?_
    show Steps _ _ _ (T63.setTop (mkF m 124 #[vR a1, vI 5, vI 2, vI 7, vI 2, vR s2, vI 0, vI 2] [])) _
    exact X63.returnOut hx Bd.returns (hb hby d7_124) hr
  · show Q7_5 Z a1 bi bf bp bc bn ki kf kp kc kn IL FL PL s0 s1 s2 q0 q1 q2 x0_ x1_ x2_ x3_ y1_ y2_ y3_ z0_ z1_ z2_ z3_ h0 n0 _ T63.heap _
    rw [e63]
    exact ⟨x0_, x1_, x2_, x3_, z0_, z1_, z2_, z3_, rfl, N63, K63, fk64, Fw63, fk65, fk66, fk67, fk68, fk69, fk70, fk71, fk72, fk73, fk74, fk75, fk76, fk77, fk78, fk79, fk80, ⟨rfl, rfl, rfl⟩⟩
theorem ef_7_6 (m : MethodId) (x0 : Addr) : entryFrame m #[(.ref x0), (.int (6 : Int32))] 8 = mkF m 0 #[.val (.ref x0), .val (.int (6 : Int32)), .unset, .unset, .unset, .unset, .unset, .unset] [] := by first | (simp [entryFrame, mkF, argsToLocals, Value.category]; done) | rfl
def Q7_6 (Z : State) (a1 : Addr) (bi bf bp bc bn : Addr) (ki kf kp kc kn : ClassId) (IL FL PL : List Int32) (s0 s1 s2 : Addr) (q0 q1 q2 : ClassId) (x0_ x1_ x2_ x3_ y1_ y2_ y3_ z0_ z1_ z2_ z3_ : Int32) (h0 : Heap) (n0 : Nat) (v : Option Value) (h : Heap) (L : List Loc) : Prop := own_QT6 Z a1 bi bf bp bc bn ki kf kp kc kn IL FL PL s0 s1 s2 q0 q1 q2 x0_ x1_ x2_ x3_ y1_ y2_ y3_ z0_ z1_ z2_ z3_ h0 n0 v h L
theorem rm7_6 (l : Launch) (Z : State) (a0 : Array Value) (hw : ∀ d ∈ tables_1, d.before a0 Z = true) (ws : List Jvm.Cond) (a1 : Addr) (bi bf bp bc bn : Addr) (ki kf kp kc kn : ClassId) (IL FL PL : List Int32) (s0 s1 s2 : Addr) (q0 q1 q2 : ClassId) (x0_ x1_ x2_ x3_ y1_ y2_ y3_ z0_ z1_ z2_ z3_ : Int32) (h0 : Heap) (n0 : Nat) (Z0 : n0 ≤ h0.size) (E_a1 : Exa Z h0 a1 "com/example/tidemine/tidemine/PatternTrie") (F_size : Fld Z h0 a1 "com/example/tidemine/tidemine/PatternTrie" "size" "I" (.int (7 : Int32))) (F_items : Fld Z h0 a1 "com/example/tidemine/tidemine/PatternTrie" "items" "[I" (.ref bi)) (V_bi : Arv Z h0 bi ki .int (16 : Int32) (own_bs IL) (.int (0 : Int32))) (F_sameEvents : Fld Z h0 a1 "com/example/tidemine/tidemine/PatternTrie" "sameEvents" "[Z" (.ref bf)) (V_bf : Arv Z h0 bf kf .boolean (16 : Int32) (own_bs FL) (.int (0 : Int32))) (F_parents : Fld Z h0 a1 "com/example/tidemine/tidemine/PatternTrie" "parents" "[I" (.ref bp)) (V_bp : Arv Z h0 bp kp .int (16 : Int32) (own_bs PL) (.int (0 : Int32))) (F_children : Fld Z h0 a1 "com/example/tidemine/tidemine/PatternTrie" "children" "[[I" (.ref bc)) (V_bc : Arv Z h0 bc kc (.array .int) (16 : Int32) [(.ref s0), (.ref s1), (.ref s2), .null, .null, .null, .null, .null, .null, .null, .null, .null, .null, .null, .null, .null] .null) (F_childCounts : Fld Z h0 a1 "com/example/tidemine/tidemine/PatternTrie" "childCounts" "[I" (.ref bn)) (V_bn : Arv Z h0 bn kn .int (16 : Int32) (own_bs [3, 1, 2, 0, 0, 0, 0, 0, 0, 0, 0, 0, 0, 0, 0, 0]) (.int (0 : Int32))) (V_s0 : Arv Z h0 s0 q0 .int (4 : Int32) (own_bs [x0_, x1_, x2_, x3_]) (.int (0 : Int32))) (E_s0 : Exa Z h0 s0 "[I") (V_s1 : Arv Z h0 s1 q1 .int (4 : Int32) (own_bs [3, y1_, y2_, y3_]) (.int (0 : Int32))) (E_s1 : Exa Z h0 s1 "[I") (V_s2 : Arv Z h0 s2 q2 .int (4 : Int32) (own_bs [z0_, z1_, z2_, z3_]) (.int (0 : Int32))) (E_s2 : Exa Z h0 s2 "[I") (hpr1 : PL.getD 1 0 = (0 : Int32)) (hpr2 : PL.getD 2 0 = (0 : Int32)) (hpr3 : PL.getD 3 0 = (1 : Int32)) (hpr4 : PL.getD 4 0 = (0 : Int32)) (hpr5 : PL.getD 5 0 = (2 : Int32)) (hpr6 : PL.getD 6 0 = (2 : Int32)) (g_a1 : n0 ≤ a1) (g_bi : n0 ≤ bi) (g_bf : n0 ≤ bf) (g_bp : n0 ≤ bp) (g_bc : n0 ≤ bc) (g_bn : n0 ≤ bn) (g_s0 : n0 ≤ s0) (g_s1 : n0 ≤ s1) (g_s2 : n0 ≤ s2) (ne_a1_bi : a1 ≠ bi) (ne_a1_bf : a1 ≠ bf) (ne_a1_bp : a1 ≠ bp) (ne_a1_bc : a1 ≠ bc) (ne_a1_bn : a1 ≠ bn) (ne_a1_s0 : a1 ≠ s0) (ne_a1_s1 : a1 ≠ s1) (ne_a1_s2 : a1 ≠ s2) (ne_bi_bf : bi ≠ bf) (ne_bi_bp : bi ≠ bp) (ne_bi_bc : bi ≠ bc) (ne_bi_bn : bi ≠ bn) (ne_bi_s0 : bi ≠ s0) (ne_bi_s1 : bi ≠ s1) (ne_bi_s2 : bi ≠ s2) (ne_bf_bp : bf ≠ bp) (ne_bf_bc : bf ≠ bc) (ne_bf_bn : bf ≠ bn) (ne_bf_s0 : bf ≠ s0) (ne_bf_s1 : bf ≠ s1) (ne_bf_s2 : bf ≠ s2) (ne_bp_bc : bp ≠ bc) (ne_bp_bn : bp ≠ bn) (ne_bp_s0 : bp ≠ s0) (ne_bp_s1 : bp ≠ s1) (ne_bp_s2 : bp ≠ s2) (ne_bc_bn : bc ≠ bn) (ne_bc_s0 : bc ≠ s0) (ne_bc_s1 : bc ≠ s1) (ne_bc_s2 : bc ≠ s2) (ne_bn_s0 : bn ≠ s0) (ne_bn_s1 : bn ≠ s1) (ne_bn_s2 : bn ≠ s2) (ne_s0_s1 : s0 ≠ s1) (ne_s0_s2 : s0 ≠ s2) (ne_s1_s2 : s1 ≠ s2) (hpat : (z0_ < (6 : Int32) ∧ ¬ z1_ < (6 : Int32)) ∨ (¬ z0_ < (6 : Int32) ∧ z1_ < (6 : Int32))) :
    MetFree l mn_4 (head1 (Jvm.Cond.code mn_4 prog_23_method_4_code 8 none :: ws) ({ frames := 0, cells := 0, slots := 0, locals := 0 } : Room)) (fun a U => a = #[(.ref a1), (.int (6 : Int32))] ∧ Z.Warmed39 U.vm ∧ U.heap = h0) (fun _ _ _ _ _ => True) (fun _ U o U' => ∃ v L, o = .returned v ∧ Q7_6 Z a1 bi bf bp bc bn ki kf kp kc kn IL FL PL s0 s1 s2 q0 q1 q2 x0_ x1_ x2_ x3_ y1_ y2_ y3_ z0_ z1_ z2_ z3_ h0 n0 v U'.heap L ∧ FrameEnd U o U' L ({ frames := 0, cells := 0, slots := 0, locals := 0 } : Room).cells ({ frames := 0, cells := 0, slots := 0, locals := 0 } : Room).slots) := by
  refine MetFree.of_bodySF (plainFor_of_name pn_2) hisR ?_
  intro p e s m args below meth c s₁ Bd hml0 hP hK
  obtain ⟨rfl, hZ, hh⟩ := hP
  have hx := Bd.exec
  have hby := Bd.bytes
  have hml : c.maxLocals = 8 := hml0
  have hown : s.vm.findClass "com/example/tidemine/tidemine/PatternTrie" = some m.cls := findClass_of_methodNamed Bd.named
  have hnm := (name_of_methodNamed Bd.named Bd.method).1
  have X0 : Stand p l e ({ frames := 0, cells := 0, slots := 0, locals := 0 } : Room) s m #[(.ref a1), (.int (6 : Int32))] below meth c s₁ [] 0 0 := Stand.of_body Bd
  have e0 : s₁.heap = h0 := by rw [← hh, Bd.state]; rfl
  have N0 := Fr.nil n0
  have K0 := Keep.refl h0 [a1, bc, bn, s0, s1, s2]
  have pre0 : ∀ t, Steps p.tables e below (s₁.setTop (mkF m 0 #[.val (.ref a1), .val (.int (6 : Int32)), .unset, .unset, .unset, .unset, .unset, .unset] [])) t → Steps p.tables e below (s₁.setTop (entryFrame m #[(.ref a1), (.int (6 : Int32))] 8)) t := fun t k => castTop (ef_7_6 m a1) k
  obtain ⟨T1, X1, e1, st1⟩ := gF X0 hx hZ hown (ww hw 10 rfl) e0 F_size (g := (mkF m 6 #[vR a1, vI 6, vI (-1), vI 6, .unset, .unset, .unset, .unset] [iR a1, iI 6])) rfl rfl (hb hby d7_6)
  obtain ⟨T2, X2, e2, st2⟩ := gF X1 hx hZ hown (ww hw 18 rfl) e1 F_parents (g := (mkF m 13 #[vR a1, vI 6, vI (-1), vI 6, .unset, .unset, .unset, .unset] [iR a1])) rfl rfl (hb hby d7_13)
  obtain ⟨cl3, Ar3, q3, S3, M3, H3, G3⟩ := id V_bp
  have hin4 := inb_of (j := (6 : Int32)) S3 ⟨by decide, by decide⟩
  have hat5 : cl3.slots[((6 : Int32)).toNatClampNeg]? = some (.int (2 : Int32)) := Has.at H3 hin4 (by rw [own_bsget]; exact congrArg Value.int hpr6)
  obtain ⟨T6, X6, e6, st6⟩ := gF X2 hx hZ hown (ww hw 22 rfl) e2 F_children (g := (mkF m 33 #[vR a1, vI 6, vI (-1), vI 6, vI 2, .unset, .unset, .unset] [iR a1])) rfl rfl (hb hby d7_33)
  obtain ⟨cl7, Ar7, q7, S7, M7, H7, G7⟩ := id V_bc
  have hin8 := inb_of (j := (2 : Int32)) S7 ⟨by decide, by decide⟩
  obtain ⟨T10, X10, e10, st10⟩ := gF X6 hx hZ hown (ww hw 24 rfl) e6 F_childCounts (g := (mkF m 50 #[vR a1, vI 6, vI (-1), vI 6, vI 2, vR s2, vI 0, vI 0] [iR a1, iI 0])) rfl rfl (hb hby d7_50)
  obtain ⟨cl11, Ar11, q11, S11, M11, H11, G11⟩ := id V_bn
  have hin12 := inb_of (j := (2 : Int32)) S11 ⟨by decide, by decide⟩
  obtain ⟨cl14, Ar14, q14, S14, M14, H14, G14⟩ := id V_s2
  have hin15 := inb_of (j := (0 : Int32)) S14 ⟨by decide, by decide⟩
  have pre18 : ∀ t, Steps p.tables e below (T10.setTop (mkF m 65 #[vR a1, vI 6, vI (-1), vI 6, vI 2, vR s2, vI 0, vI 0] [iI 6, iI z0_])) t → Steps p.tables e below (s₁.setTop (entryFrame m #[(.ref a1), (.int (6 : Int32))] 8)) t := by
    intro t kt
    refine pre0 t ?_
    refine XS.iconst X0.here hx rfl (hb hby d7_0) ?_
    refine XS.istoreN X0.here hx rfl (hb hby d7_1) rfl (l' := #[vR a1, vI 6, vI (-1), .unset, .unset, .unset, .unset, .unset]) rfl ?_
    refine XS.iloadN X0.here hx rfl (hb hby d7_2) rfl ?_
    refine XS.istoreN X0.here hx rfl (hb hby d7_3) rfl (l' := #[vR a1, vI 6, vI (-1), vI 6, .unset, .unset, .unset, .unset]) rfl ?_
    refine XS.iloadN X0.here hx rfl (hb hby d7_4) rfl ?_
    refine XS.aloadN X0.here hx rfl (hb hby d7_5) rfl rfl ?_
    show SA s₁ m 6 #[vR a1, vI 6, vI (-1), vI 6, .unset, .unset, .unset, .unset] [iR a1, iI 6]
    refine st1 _ ?_
    refine XS.icmpNo X1.here hx rfl (hb hby d7_9) rfl (tlt (by decide : (6 : Int32) < (7 : Int32))).2.1 ?_
    refine XS.aloadN X1.here hx rfl (hb hby d7_12) rfl rfl ?_
    refine st2 _ ?_
    refine XS.iloadN X2.here hx rfl (hb hby d7_16) rfl ?_
    refine X2.iaload hx (j := (6 : Int32)) (v := (.int (2 : Int32))) (by rw [e2]; exact Ar3.1) (State.isArrayOf_alike hZ.alike Ar3.2.1) Ar3.2.2 hin4 hat5 (g := (mkF m 17 #[vR a1, vI 6, vI (-1), vI 6, .unset, .unset, .unset, .unset] [iI 6, iR bp])) rfl rfl (hb hby d7_17) _ ?_
    refine XS.istore X2.here hx rfl (hb hby d7_18) rfl (l' := #[vR a1, vI 6, vI (-1), vI 6, vI 2, .unset, .unset, .unset]) rfl ?_
    refine XS.iload X2.here hx rfl (hb hby d7_20) rfl ?_
    refine XS.iloadN X2.here hx rfl (hb hby d7_22) rfl ?_
    refine XS.icmpNo X2.here hx rfl (hb hby d7_23) rfl (tlt (by decide : (2 : Int32) < (6 : Int32))).2.1 ?_
    refine XS.iload X2.here hx rfl (hb hby d7_26) rfl ?_
    refine XS.iloadN X2.here hx rfl (hb hby d7_28) rfl ?_
    refine XS.icmpNo X2.here hx rfl (hb hby d7_29) rfl (feq (by decide : ¬ ((2 : Int32) = (-1 : Int32)))).1 ?_
    refine XS.aloadN X2.here hx rfl (hb hby d7_32) rfl rfl ?_
    show SA T2 m 33 #[vR a1, vI 6, vI (-1), vI 6, vI 2, .unset, .unset, .unset] [iR a1]
    refine st6 _ ?_
    refine XS.iload X6.here hx rfl (hb hby d7_36) rfl ?_
    refine X6.aaload hx (j := (2 : Int32)) (v := (.ref s2)) (by rw [e6]; exact Ar7.1) (State.isArrayOf_alike hZ.alike Ar7.2.1) rfl Ar7.2.2 hin8 (Has.at H7 hin8 rfl) (g := (mkF m 38 #[vR a1, vI 6, vI (-1), vI 6, vI 2, .unset, .unset, .unset] [iI 2, iR bc])) rfl rfl (hb hby d7_38) _ ?_
    refine XS.astore X6.here hx rfl (hb hby d7_39) rfl rfl (l' := #[vR a1, vI 6, vI (-1), vI 6, vI 2, vR s2, .unset, .unset]) rfl ?_
    refine XS.iconst X6.here hx rfl (hb hby d7_41) ?_
    refine XS.istore X6.here hx rfl (hb hby d7_42) rfl (l' := #[vR a1, vI 6, vI (-1), vI 6, vI 2, vR s2, vI 0, .unset]) rfl ?_
    refine XS.iconst X6.here hx rfl (hb hby d7_44) ?_
    refine XS.istore X6.here hx rfl (hb hby d7_45) rfl (l' := #[vR a1, vI 6, vI (-1), vI 6, vI 2, vR s2, vI 0, vI 0]) rfl ?_
    refine XS.iload X6.here hx rfl (hb hby d7_47) rfl ?_
    refine XS.aloadN X6.here hx rfl (hb hby d7_49) rfl rfl ?_
    refine st10 _ ?_
    refine XS.iload X10.here hx rfl (hb hby d7_53) rfl ?_
    refine X10.iaload hx (j := (2 : Int32)) (v := (.int (2 : Int32))) (by rw [e10]; exact Ar11.1) (State.isArrayOf_alike hZ.alike Ar11.2.1) Ar11.2.2 hin12 (Has.at H11 hin12 rfl) (g := (mkF m 55 #[vR a1, vI 6, vI (-1), vI 6, vI 2, vR s2, vI 0, vI 0] [iI 2, iR bn, iI 0])) rfl rfl (hb hby d7_55) _ ?_
    refine XS.icmpNo X10.here hx rfl (hb hby d7_56) rfl (tlt (by decide : (0 : Int32) < (2 : Int32))).2.1 ?_
    refine XS.aload X10.here hx rfl (hb hby d7_59) rfl rfl ?_
    refine XS.iload X10.here hx rfl (hb hby d7_61) rfl ?_
    refine X10.iaload hx (j := (0 : Int32)) (v := (.int z0_)) (by rw [e10]; exact Ar14.1) (State.isArrayOf_alike hZ.alike Ar14.2.1) Ar14.2.2 hin15 (Has.at H14 hin15 rfl) (g := (mkF m 63 #[vR a1, vI 6, vI (-1), vI 6, vI 2, vR s2, vI 0, vI 0] [iI 0, iR s2])) rfl rfl (hb hby d7_63) _ ?_
    refine XS.iloadN X10.here hx rfl (hb hby d7_64) rfl ?_
    exact kt
  by_cases hc17 : z0_ < (6 : Int32)
  · have hin19 := inb_of (j := (0 : Int32)) S14 ⟨by decide, by decide⟩
    have hin21 := inb_of (j := (0 : Int32)) S14 ⟨by decide, by decide⟩
    obtain ⟨T22, h22, X22, e22, W22, st22⟩ := stI X10 hx hZ e10 Ar14 (j := (0 : Int32)) hin21 (g := (mkF m 80 #[vR a1, vI 6, vI (-1), vI 6, vI 2, vR s2, vI 1, vI 0] [iI z0_, iI 0, iR s2])) rfl rfl (hb hby d7_80)
    have V22 : Arv Z h22 s2 q2 .int (4 : Int32) (own_bs [z0_, z1_, z2_, z3_]) (.int (0 : Int32)) := Arv.set Ar14 q14 S14 M14 H14 G14 rfl W22 0 rfl (Nat.le_of_ble_eq_true rfl)
    have K22 : Keep h0 h22 [a1, bc, bn, s0, s1, s2] := K0.wr W22 (Or.inl (List.mem_of_getElem? (i := 5) rfl))
    have N22 := Fr.snoc X22 N0 g_s2
    have fk23 := (F_childCounts.other W22 (Or.inl ne_a1_s2))
    obtain ⟨T24, X24, e24, st24⟩ := gF X22 hx hZ hown (ww hw 24 rfl) e22 fk23 (g := (mkF m 50 #[vR a1, vI 6, vI (-1), vI 6, vI 2, vR s2, vI 1, vI 1] [iR a1, iI 1])) rfl rfl (hb hby d7_50)
    have fk25 := (V_bn.other W22 ne_bn_s2)
    obtain ⟨cl26, Ar26, q26, S26, M26, H26, G26⟩ := id fk25
    have hin27 := inb_of (j := (2 : Int32)) S26 ⟨by decide, by decide⟩
    obtain ⟨cl29, Ar29, q29, S29, M29, H29, G29⟩ := id V22
    have hin30 := inb_of (j := (1 : Int32)) S29 ⟨by decide, by decide⟩
    have pre33 : ∀ t, Steps p.tables e below (T24.setTop (mkF m 65 #[vR a1, vI 6, vI (-1), vI 6, vI 2, vR s2, vI 1, vI 1] [iI 6, iI z1_])) t → Steps p.tables e below (s₁.setTop (entryFrame m #[(.ref a1), (.int (6 : Int32))] 8)) t := by
      intro t kt
      refine pre18 t ?_
      refine XS.icmpNo X10.here hx rfl (hb hby d7_65) rfl (tlt hc17).2.1 ?_
      refine XS.aload X10.here hx rfl (hb hby d7_68) rfl rfl ?_
      refine XS.iload X10.here hx rfl (hb hby d7_70) rfl ?_
      refine XS.iinc X10.here hx rfl (hb hby d7_72) rfl (l' := #[vR a1, vI 6, vI (-1), vI 6, vI 2, vR s2, vI ((0 : Int32) + (1 : Int32)), vI 0]) rfl ?_
      rw [(by decide : ((0 : Int32) + (1 : Int32)) = (1 : Int32))]
      refine XS.aload X10.here hx rfl (hb hby d7_75) rfl rfl ?_
      refine XS.iload X10.here hx rfl (hb hby d7_77) rfl ?_
      show SA T10 m 79 #[vR a1, vI 6, vI (-1), vI 6, vI 2, vR s2, vI 1, vI 0] [iI 0, iR s2, iI 0, iR s2]
      refine X10.iaload hx (j := (0 : Int32)) (v := (.int z0_)) (by rw [e10]; exact Ar14.1) (State.isArrayOf_alike hZ.alike Ar14.2.1) Ar14.2.2 hin19 (Has.at H14 hin19 rfl) (g := (mkF m 79 #[vR a1, vI 6, vI (-1), vI 6, vI 2, vR s2, vI 1, vI 0] [iI 0, iR s2, iI 0, iR s2])) rfl rfl (hb hby d7_79) _ ?_
      refine st22 _ ?_
      refine XS.iinc X22.here hx rfl (hb hby d7_81) rfl (l' := #[vR a1, vI 6, vI (-1), vI 6, vI 2, vR s2, vI 1, vI ((0 : Int32) + (1 : Int32))]) rfl ?_
      rw [(by decide : ((0 : Int32) + (1 : Int32)) = (1 : Int32))]
      refine XS.goto X22.here hx rfl (pc0 := 84) (pc' := 47) rfl (hb hby d7_84) (by decide) (by decide) ?_
      refine XS.iload X22.here hx rfl (hb hby d7_47) rfl ?_
      refine XS.aloadN X22.here hx rfl (hb hby d7_49) rfl rfl ?_
      refine st24 _ ?_
      refine XS.iload X24.here hx rfl (hb hby d7_53) rfl ?_
      refine X24.iaload hx (j := (2 : Int32)) (v := (.int (2 : Int32))) (by rw [e24]; exact Ar26.1) (State.isArrayOf_alike hZ.alike Ar26.2.1) Ar26.2.2 hin27 (Has.at H26 hin27 rfl) (g := (mkF m 55 #[vR a1, vI 6, vI (-1), vI 6, vI 2, vR s2, vI 1, vI 1] [iI 2, iR bn, iI 1])) rfl rfl (hb hby d7_55) _ ?_
      refine XS.icmpNo X24.here hx rfl (hb hby d7_56) rfl (tlt (by decide : (1 : Int32) < (2 : Int32))).2.1 ?_
      refine XS.aload X24.here hx rfl (hb hby d7_59) rfl rfl ?_
      refine XS.iload X24.here hx rfl (hb hby d7_61) rfl ?_
      refine X24.iaload hx (j := (1 : Int32)) (v := (.int z1_)) (by rw [e24]; exact Ar29.1) (State.isArrayOf_alike hZ.alike Ar29.2.1) Ar29.2.2 hin30 (Has.at H29 hin30 rfl) (g := (mkF m 63 #[vR a1, vI 6, vI (-1), vI 6, vI 2, vR s2, vI 1, vI 1] [iI 1, iR s2])) rfl rfl (hb hby d7_63) _ ?_
      refine XS.iloadN X24.here hx rfl (hb hby d7_64) rfl ?_
      exact kt
    by_cases hc32 : z1_ < (6 : Int32)
    · exfalso; exact absurd hpat (by simp only [hc17, hc32, or_false, or_true, true_or, false_or, and_true, true_and, false_and, and_false, not_true_eq_false, not_false_eq_true])
    · obtain ⟨T34, X34, e34, st34⟩ := gF X24 hx hZ hown (ww hw 24 rfl) e24 fk23 (g := (mkF m 50 #[vR a1, vI 6, vI (-1), vI 6, vI 2, vR s2, vI 1, vI 2] [iR a1, iI 2])) rfl rfl (hb hby d7_50)
      have hin35 := inb_of (j := (2 : Int32)) S26 ⟨by decide, by decide⟩
      obtain ⟨T37, X37, e37, st37⟩ := gF X34 hx hZ hown (ww hw 24 rfl) e34 fk23 (g := (mkF m 88 #[vR a1, vI 6, vI (-1), vI 6, vI 2, vR s2, vI 1, vI 2] [iR a1])) rfl rfl (hb hby d7_88)
      have hin38 := inb_of (j := (2 : Int32)) S26 ⟨by decide, by decide⟩
      obtain ⟨T39, h39, X39, e39, W39, st39⟩ := stI X37 hx hZ e37 Ar26 (j := (2 : Int32)) hin38 (g := (mkF m 95 #[vR a1, vI 6, vI (-1), vI 6, vI 2, vR s2, vI 1, vI 2] [iI 1, iI 2, iR bn])) rfl rfl (hb hby d7_95)
      have V39 : Arv Z h39 bn kn .int (16 : Int32) (own_bs [3, 1, 1, 0, 0, 0, 0, 0, 0, 0, 0, 0, 0, 0, 0, 0]) (.int (0 : Int32)) := Arv.set Ar26 q26 S26 M26 H26 G26 rfl W39 2 rfl (Nat.le_of_ble_eq_true rfl)
      have K39 : Keep h0 h39 [a1, bc, bn, s0, s1, s2] := K22.wr W39 (Or.inl (List.mem_of_getElem? (i := 2) rfl))
      have N39 := Fr.snoc X39 N22 g_bn
      have fk40 := ((F_children.other W22 (Or.inl ne_a1_s2)).other W39 (Or.inl ne_a1_bn))
      obtain ⟨T41, X41, e41, st41⟩ := gF X39 hx hZ hown (ww hw 22 rfl) e39 fk40 (g := (mkF m 100 #[vR a1, vI 6, vI 2, vI 6, vI 2, vR s2, vI 1, vI 2] [iR a1])) rfl rfl (hb hby d7_100)
      have fk42 := ((V_bc.other W22 ne_bc_s2).other W39 ne_bc_bn)
      obtain ⟨cl43, Ar43, q43, S43, M43, H43, G43⟩ := id fk42
      have hin44 := inb_of (j := (6 : Int32)) S43 ⟨by decide, by decide⟩
      obtain ⟨T45, h45, X45, e45, W45, st45⟩ := stR X41 hx hZ e41 Ar43 (j := (6 : Int32)) (v := .null) hin44 rfl (Or.inl rfl) (g := (mkF m 105 #[vR a1, vI 6, vI 2, vI 6, vI 2, vR s2, vI 1, vI 2] [.null, iI 6, iR bc])) rfl rfl (hb hby d7_105)
      have V45 : Arv Z h45 bc kc (.array .int) (16 : Int32) [(.ref s0), (.ref s1), (.ref s2), .null, .null, .null, .null, .null, .null, .null, .null, .null, .null, .null, .null, .null] .null := Arv.set Ar43 q43 S43 M43 H43 G43 rfl W45 6 rfl (Nat.le_of_ble_eq_true rfl)
      have K45 : Keep h0 h45 [a1, bc, bn, s0, s1, s2] := K39.wr W45 (Or.inl (List.mem_of_getElem? (i := 1) rfl))
      have N45 := Fr.snoc X45 N39 g_bc
      have fk46 := ((fk23.other W39 (Or.inl ne_a1_bn)).other W45 (Or.inl ne_a1_bc))
      obtain ⟨T47, X47, e47, st47⟩ := gF X45 hx hZ hown (ww hw 24 rfl) e45 fk46 (g := (mkF m 107 #[vR a1, vI 6, vI 2, vI 6, vI 2, vR s2, vI 1, vI 2] [iR a1])) rfl rfl (hb hby d7_107)
      have fk48 := (V39.other W45 (Ne.symm ne_bc_bn))
      obtain ⟨cl49, Ar49, q49, S49, M49, H49, G49⟩ := id fk48
      have hin50 := inb_of (j := (6 : Int32)) S49 ⟨by decide, by decide⟩
      obtain ⟨T51, h51, X51, e51, W51, st51⟩ := stI X47 hx hZ e47 Ar49 (j := (6 : Int32)) hin50 (g := (mkF m 112 #[vR a1, vI 6, vI 2, vI 6, vI 2, vR s2, vI 1, vI 2] [iI 0, iI 6, iR bn])) rfl rfl (hb hby d7_112)
      have V51 : Arv Z h51 bn kn .int (16 : Int32) (own_bs [3, 1, 1, 0, 0, 0, 0, 0, 0, 0, 0, 0, 0, 0, 0, 0]) (.int (0 : Int32)) := Arv.set Ar49 q49 S49 M49 H49 G49 rfl W51 6 rfl (Nat.le_of_ble_eq_true rfl)
      have K51 : Keep h0 h51 [a1, bc, bn, s0, s1, s2] := K45.wr W51 (Or.inl (List.mem_of_getElem? (i := 2) rfl))
      have N51 := Fr.snoc X51 N45 g_bn
      have fk52 := ((((F_size.other W22 (Or.inl ne_a1_s2)).other W39 (Or.inl ne_a1_bn)).other W45 (Or.inl ne_a1_bc)).other W51 (Or.inl ne_a1_bn))
      obtain ⟨T53, X53, e53, st53⟩ := gF X51 hx hZ hown (ww hw 10 rfl) e51 fk52 (g := (mkF m 6 #[vR a1, vI 6, vI 2, vI 7, vI 2, vR s2, vI 1, vI 2] [iR a1, iI 7])) rfl rfl (hb hby d7_6)
      have fk54 := ((((E_a1.wr W22).wr W39).wr W45).wr W51)
      obtain ⟨T55, h55, X55, e55, W55, st55⟩ := putF X53 hx hZ hown (host := "") (Or.inl (ww hw 10 rfl)) Via.refl e53 fk52 fk54 (Or.inl (ww hw 11 rfl)) (ww hw 2 rfl) (ty := .int) (by decide) rfl rfl (g := (mkF m 121 #[vR a1, vI 6, vI 2, vI 7, vI 2, vR s2, vI 1, vI 2] [iI 6, iR a1])) rfl rfl (hb hby d7_121)
      have Fw55 := fk52.same W55
      have K55 : Keep h0 h55 [a1, bc, bn, s0, s1, s2] := K51.wr W55 (Or.inl (List.mem_of_getElem? (i := 0) rfl))
      have N55 := Fr.snoc X55 N51 g_a1
      obtain ⟨fs, hr, hrun, hended, hW, hsame⟩ := X55.leave (v := none) (fun _ => rfl)
      have fk56 := (fk54.wr W55)
      have fk57 := (((((F_items.other W22 (Or.inl ne_a1_s2)).other W39 (Or.inl ne_a1_bn)).other W45 (Or.inl ne_a1_bc)).other W51 (Or.inl ne_a1_bn)).other W55 (Or.inr (slot_ne (Or.inl (ww hw 14 rfl)) (Or.inl (ww hw 11 rfl)) (by decide) (t := (.array .int)) (t' := .int) (by decide) (by decide))))
      have fk58 := (((((V_bi.other W22 ne_bi_s2).other W39 ne_bi_bn).other W45 ne_bi_bc).other W51 ne_bi_bn).other W55 (Ne.symm ne_a1_bi))
      have fk59 := (((((F_sameEvents.other W22 (Or.inl ne_a1_s2)).other W39 (Or.inl ne_a1_bn)).other W45 (Or.inl ne_a1_bc)).other W51 (Or.inl ne_a1_bn)).other W55 (Or.inr (slot_ne (Or.inl (ww hw 17 rfl)) (Or.inl (ww hw 11 rfl)) (by decide) (t := (.array .boolean)) (t' := .int) (by decide) (by decide))))
      have fk60 := (((((V_bf.other W22 ne_bf_s2).other W39 ne_bf_bn).other W45 ne_bf_bc).other W51 ne_bf_bn).other W55 (Ne.symm ne_a1_bf))
      have fk61 := (((((F_parents.other W22 (Or.inl ne_a1_s2)).other W39 (Or.inl ne_a1_bn)).other W45 (Or.inl ne_a1_bc)).other W51 (Or.inl ne_a1_bn)).other W55 (Or.inr (slot_ne (Or.inl (ww hw 19 rfl)) (Or.inl (ww hw 11 rfl)) (by decide) (t := (.array .int)) (t' := .int) (by decide) (by decide))))
      have fk62 := (((((V_bp.other W22 ne_bp_s2).other W39 ne_bp_bn).other W45 ne_bp_bc).other W51 ne_bp_bn).other W55 (Ne.symm ne_a1_bp))
      have fk63 := (((fk40.other W45 (Or.inl ne_a1_bc)).other W51 (Or.inl ne_a1_bn)).other W55 (Or.inr (slot_ne (Or.inl (ww hw 23 rfl)) (Or.inl (ww hw 11 rfl)) (by decide) (t := (.array (.array .int))) (t' := .int) (by decide) (by decide))))
      have fk64 := ((V45.other W51 ne_bc_bn).other W55 (Ne.symm ne_a1_bc))
      have fk65 := ((fk46.other W51 (Or.inl ne_a1_bn)).other W55 (Or.inr (slot_ne (Or.inl (ww hw 25 rfl)) (Or.inl (ww hw 11 rfl)) (by decide) (t := (.array .int)) (t' := .int) (by decide) (by decide))))
      have fk66 := (V51.other W55 (Ne.symm ne_a1_bn))
      have fk67 := (((((V_s0.other W22 ne_s0_s2).other W39 (Ne.symm ne_bn_s0)).other W45 (Ne.symm ne_bc_s0)).other W51 (Ne.symm ne_bn_s0)).other W55 (Ne.symm ne_a1_s0))
      have fk68 := (((((E_s0.wr W22).wr W39).wr W45).wr W51).wr W55)
      have fk69 := (((((V_s1.other W22 ne_s1_s2).other W39 (Ne.symm ne_bn_s1)).other W45 (Ne.symm ne_bc_s1)).other W51 (Ne.symm ne_bn_s1)).other W55 (Ne.symm ne_a1_s1))
      have fk70 := (((((E_s1.wr W22).wr W39).wr W45).wr W51).wr W55)
      have fk71 := ((((V22.other W39 (Ne.symm ne_bn_s2)).other W45 (Ne.symm ne_bc_s2)).other W51 (Ne.symm ne_bn_s2)).other W55 (Ne.symm ne_a1_s2))
      have fk72 := (((((E_s2.wr W22).wr W39).wr W45).wr W51).wr W55)
      refine ⟨_, _, pre33 _ ?_, hrun, hended, _, _, rfl, ?_, ⟨_, rfl⟩, hW, hsame.mono (by decide) (by decide)⟩
      · refine XS.icmpYes X24.here hx rfl (pc0 := 65) (pc' := 81) rfl (hb hby d7_65) rfl (flt hc32).2.1 (by decide) (by decide) ?_
        refine XS.iinc X24.here hx rfl (hb hby d7_81) rfl (l' := #[vR a1, vI 6, vI (-1), vI 6, vI 2, vR s2, vI 1, vI ((1 : Int32) + (1 : Int32))]) rfl ?_
        rw [(by decide : ((1 : Int32) + (1 : Int32)) = (2 : Int32))]
        refine XS.goto X24.here hx rfl (pc0 := 84) (pc' := 47) rfl (hb hby d7_84) (by decide) (by decide) ?_
        refine XS.iload X24.here hx rfl (hb hby d7_47) rfl ?_
        refine XS.aloadN X24.here hx rfl (hb hby d7_49) rfl rfl ?_
        refine st34 _ ?_
        refine XS.iload X34.here hx rfl (hb hby d7_53) rfl ?_
        refine X34.iaload hx (j := (2 : Int32)) (v := (.int (2 : Int32))) (by rw [e34]; exact Ar26.1) (State.isArrayOf_alike hZ.alike Ar26.2.1) Ar26.2.2 hin35 (Has.at H26 hin35 rfl) (g := (mkF m 55 #[vR a1, vI 6, vI (-1), vI 6, vI 2, vR s2, vI 1, vI 2] [iI 2, iR bn, iI 2])) rfl rfl (hb hby d7_55) _ ?_
        refine XS.icmpYes X34.here hx rfl (pc0 := 56) (pc' := 87) rfl (hb hby d7_56) rfl (flt (by decide : ¬ ((2 : Int32) < (2 : Int32)))).2.1 (by decide) (by decide) ?_
        refine XS.aloadN X34.here hx rfl (hb hby d7_87) rfl rfl ?_
        refine st37 _ ?_
        refine XS.iload X37.here hx rfl (hb hby d7_91) rfl ?_
        refine XS.iload X37.here hx rfl (hb hby d7_93) rfl ?_
        refine st39 _ ?_
        refine XS.iload X39.here hx rfl (hb hby d7_96) rfl ?_
        refine XS.istoreN X39.here hx rfl (hb hby d7_98) rfl (l' := #[vR a1, vI 6, vI 2, vI 6, vI 2, vR s2, vI 1, vI 2]) rfl ?_
        refine XS.aloadN X39.here hx rfl (hb hby d7_99) rfl rfl ?_
        refine st41 _ ?_
        refine XS.iloadN X41.here hx rfl (hb hby d7_103) rfl ?_
        refine XS.aconstNull X41.here hx rfl (hb hby d7_104) ?_
        refine st45 _ ?_
        refine XS.aloadN X45.here hx rfl (hb hby d7_106) rfl rfl ?_
        refine st47 _ ?_
        refine XS.iloadN X47.here hx rfl (hb hby d7_110) rfl ?_
        refine XS.iconst X47.here hx rfl (hb hby d7_111) ?_
        refine st51 _ ?_
        refine XS.iinc X51.here hx rfl (hb hby d7_113) rfl (l' := #[vR a1, vI 6, vI 2, vI ((6 : Int32) + (1 : Int32)), vI 2, vR s2, vI 1, vI 2]) rfl ?_
        rw [(by decide : ((6 : Int32) + (1 : Int32)) = (7 : Int32))]
        refine XS.goto X51.here hx rfl (pc0 := 116) (pc' := 4) rfl (hb hby d7_116) (by decide) (by decide) ?_
        refine XS.iloadN X51.here hx rfl (hb hby d7_4) rfl ?_
        refine XS.aloadN X51.here hx rfl (hb hby d7_5) rfl rfl ?_
        refine st53 _ ?_
        refine XS.icmpYes X53.here hx rfl (pc0 := 9) (pc' := 119) rfl (hb hby d7_9) rfl (flt (by decide : ¬ ((7 : Int32) < (7 : Int32)))).2.1 (by decide) (by decide) ?_
        refine XS.aloadN X53.here hx rfl (hb hby d7_119) rfl rfl ?_
        refine XS.iloadN X53.here hx rfl (hb hby d7_120) rfl ?_
        refine st55 _ ?_
        show Steps _ _ _ (T55.setTop (mkF m 124 #[vR a1, vI 6, vI 2, vI 7, vI 2, vR s2, vI 1, vI 2] [])) _
        exact X55.returnOut hx Bd.returns (hb hby d7_124) hr
      · show Q7_6 Z a1 bi bf bp bc bn ki kf kp kc kn IL FL PL s0 s1 s2 q0 q1 q2 x0_ x1_ x2_ x3_ y1_ y2_ y3_ z0_ z1_ z2_ z3_ h0 n0 _ T55.heap _
        rw [e55]
        exact ⟨x0_, x1_, x2_, x3_, z0_, z1_, z2_, z3_, rfl, N55, K55, fk56, Fw55, fk57, fk58, fk59, fk60, fk61, fk62, fk63, fk64, fk65, fk66, fk67, fk68, fk69, fk70, fk71, fk72, ⟨rfl, rfl, rfl, fun _ => rfl, fun h => absurd h hc32⟩⟩
  · obtain ⟨T73, X73, e73, st73⟩ := gF X10 hx hZ hown (ww hw 24 rfl) e10 F_childCounts (g := (mkF m 50 #[vR a1, vI 6, vI (-1), vI 6, vI 2, vR s2, vI 0, vI 1] [iR a1, iI 1])) rfl rfl (hb hby d7_50)
    have hin74 := inb_of (j := (2 : Int32)) S11 ⟨by decide, by decide⟩
    have hin76 := inb_of (j := (1 : Int32)) S14 ⟨by decide, by decide⟩
    have pre79 : ∀ t, Steps p.tables e below (T73.setTop (mkF m 65 #[vR a1, vI 6, vI (-1), vI 6, vI 2, vR s2, vI 0, vI 1] [iI 6, iI z1_])) t → Steps p.tables e below (s₁.setTop (entryFrame m #[(.ref a1), (.int (6 : Int32))] 8)) t := by
      intro t kt
      refine pre18 t ?_
      refine XS.icmpYes X10.here hx rfl (pc0 := 65) (pc' := 81) rfl (hb hby d7_65) rfl (flt hc17).2.1 (by decide) (by decide) ?_
      refine XS.iinc X10.here hx rfl (hb hby d7_81) rfl (l' := #[vR a1, vI 6, vI (-1), vI 6, vI 2, vR s2, vI 0, vI ((0 : Int32) + (1 : Int32))]) rfl ?_
      rw [(by decide : ((0 : Int32) + (1 : Int32)) = (1 : Int32))]
      refine XS.goto X10.here hx rfl (pc0 := 84) (pc' := 47) rfl (hb hby d7_84) (by decide) (by decide) ?_
      refine XS.iload X10.here hx rfl (hb hby d7_47) rfl ?_
      refine XS.aloadN X10.here hx rfl (hb hby d7_49) rfl rfl ?_
      refine st73 _ ?_
      refine XS.iload X73.here hx rfl (hb hby d7_53) rfl ?_
      refine X73.iaload hx (j := (2 : Int32)) (v := (.int (2 : Int32))) (by rw [e73]; exact Ar11.1) (State.isArrayOf_alike hZ.alike Ar11.2.1) Ar11.2.2 hin74 (Has.at H11 hin74 rfl) (g := (mkF m 55 #[vR a1, vI 6, vI (-1), vI 6, vI 2, vR s2, vI 0, vI 1] [iI 2, iR bn, iI 1])) rfl rfl (hb hby d7_55) _ ?_
      refine XS.icmpNo X73.here hx rfl (hb hby d7_56) rfl (tlt (by decide : (1 : Int32) < (2 : Int32))).2.1 ?_
      refine XS.aload X73.here hx rfl (hb hby d7_59) rfl rfl ?_
      refine XS.iload X73.here hx rfl (hb hby d7_61) rfl ?_
      refine X73.iaload hx (j := (1 : Int32)) (v := (.int z1_)) (by rw [e73]; exact Ar14.1) (State.isArrayOf_alike hZ.alike Ar14.2.1) Ar14.2.2 hin76 (Has.at H14 hin76 rfl) (g := (mkF m 63 #[vR a1, vI 6, vI (-1), vI 6, vI 2, vR s2, vI 0, vI 1] [iI 1, iR s2])) rfl rfl (hb hby d7_63) _ ?_
      refine XS.iloadN X73.here hx rfl (hb hby d7_64) rfl ?_
      exact kt
    by_cases hc78 : z1_ < (6 : Int32)
    · have hin80 := inb_of (j := (1 : Int32)) S14 ⟨by decide, by decide⟩
      have hin82 := inb_of (j := (0 : Int32)) S14 ⟨by decide, by decide⟩
      obtain ⟨T83, h83, X83, e83, W83, st83⟩ := stI X73 hx hZ e73 Ar14 (j := (0 : Int32)) hin82 (g := (mkF m 80 #[vR a1, vI 6, vI (-1), vI 6, vI 2, vR s2, vI 1, vI 1] [iI z1_, iI 0, iR s2])) rfl rfl (hb hby d7_80)
      have V83 : Arv Z h83 s2 q2 .int (4 : Int32) (own_bs [z1_, z1_, z2_, z3_]) (.int (0 : Int32)) := Arv.set Ar14 q14 S14 M14 H14 G14 rfl W83 0 rfl (Nat.le_of_ble_eq_true rfl)
      have K83 : Keep h0 h83 [a1, bc, bn, s0, s1, s2] := K0.wr W83 (Or.inl (List.mem_of_getElem? (i := 5) rfl))
      have N83 := Fr.snoc X83 N0 g_s2
      have fk84 := (F_childCounts.other W83 (Or.inl ne_a1_s2))
      obtain ⟨T85, X85, e85, st85⟩ := gF X83 hx hZ hown (ww hw 24 rfl) e83 fk84 (g := (mkF m 50 #[vR a1, vI 6, vI (-1), vI 6, vI 2, vR s2, vI 1, vI 2] [iR a1, iI 2])) rfl rfl (hb hby d7_50)
      have fk86 := (V_bn.other W83 ne_bn_s2)
      obtain ⟨cl87, Ar87, q87, S87, M87, H87, G87⟩ := id fk86
      have hin88 := inb_of (j := (2 : Int32)) S87 ⟨by decide, by decide⟩
      obtain ⟨T90, X90, e90, st90⟩ := gF X85 hx hZ hown (ww hw 24 rfl) e85 fk84 (g := (mkF m 88 #[vR a1, vI 6, vI (-1), vI 6, vI 2, vR s2, vI 1, vI 2] [iR a1])) rfl rfl (hb hby d7_88)
      have hin91 := inb_of (j := (2 : Int32)) S87 ⟨by decide, by decide⟩
      obtain ⟨T92, h92, X92, e92, W92, st92⟩ := stI X90 hx hZ e90 Ar87 (j := (2 : Int32)) hin91 (g := (mkF m 95 #[vR a1, vI 6, vI (-1), vI 6, vI 2, vR s2, vI 1, vI 2] [iI 1, iI 2, iR bn])) rfl rfl (hb hby d7_95)
      have V92 : Arv Z h92 bn kn .int (16 : Int32) (own_bs [3, 1, 1, 0, 0, 0, 0, 0, 0, 0, 0, 0, 0, 0, 0, 0]) (.int (0 : Int32)) := Arv.set Ar87 q87 S87 M87 H87 G87 rfl W92 2 rfl (Nat.le_of_ble_eq_true rfl)
      have K92 : Keep h0 h92 [a1, bc, bn, s0, s1, s2] := K83.wr W92 (Or.inl (List.mem_of_getElem? (i := 2) rfl))
      have N92 := Fr.snoc X92 N83 g_bn
      have fk93 := ((F_children.other W83 (Or.inl ne_a1_s2)).other W92 (Or.inl ne_a1_bn))
      obtain ⟨T94, X94, e94, st94⟩ := gF X92 hx hZ hown (ww hw 22 rfl) e92 fk93 (g := (mkF m 100 #[vR a1, vI 6, vI 2, vI 6, vI 2, vR s2, vI 1, vI 2] [iR a1])) rfl rfl (hb hby d7_100)
      have fk95 := ((V_bc.other W83 ne_bc_s2).other W92 ne_bc_bn)
      obtain ⟨cl96, Ar96, q96, S96, M96, H96, G96⟩ := id fk95
      have hin97 := inb_of (j := (6 : Int32)) S96 ⟨by decide, by decide⟩
      obtain ⟨T98, h98, X98, e98, W98, st98⟩ := stR X94 hx hZ e94 Ar96 (j := (6 : Int32)) (v := .null) hin97 rfl (Or.inl rfl) (g := (mkF m 105 #[vR a1, vI 6, vI 2, vI 6, vI 2, vR s2, vI 1, vI 2] [.null, iI 6, iR bc])) rfl rfl (hb hby d7_105)
      have V98 : Arv Z h98 bc kc (.array .int) (16 : Int32) [(.ref s0), (.ref s1), (.ref s2), .null, .null, .null, .null, .null, .null, .null, .null, .null, .null, .null, .null, .null] .null := Arv.set Ar96 q96 S96 M96 H96 G96 rfl W98 6 rfl (Nat.le_of_ble_eq_true rfl)
      have K98 : Keep h0 h98 [a1, bc, bn, s0, s1, s2] := K92.wr W98 (Or.inl (List.mem_of_getElem? (i := 1) rfl))
      have N98 := Fr.snoc X98 N92 g_bc
      have fk99 := ((fk84.other W92 (Or.inl ne_a1_bn)).other W98 (Or.inl ne_a1_bc))
      obtain ⟨T100, X100, e100, st100⟩ := gF X98 hx hZ hown (ww hw 24 rfl) e98 fk99 (g := (mkF m 107 #[vR a1, vI 6, vI 2, vI 6, vI 2, vR s2, vI 1, vI 2] [iR a1])) rfl rfl (hb hby d7_107)
      have fk101 := (V92.other W98 (Ne.symm ne_bc_bn))
      obtain ⟨cl102, Ar102, q102, S102, M102, H102, G102⟩ := id fk101
      have hin103 := inb_of (j := (6 : Int32)) S102 ⟨by decide, by decide⟩
      obtain ⟨T104, h104, X104, e104, W104, st104⟩ := stI X100 hx hZ e100 Ar102 (j := (6 : Int32)) hin103 (g := (mkF m 112 #[vR a1, vI 6, vI 2, vI 6, vI 2, vR s2, vI 1, vI 2] [iI 0, iI 6, iR bn])) rfl rfl (hb hby d7_112)
      have V104 : Arv Z h104 bn kn .int (16 : Int32) (own_bs [3, 1, 1, 0, 0, 0, 0, 0, 0, 0, 0, 0, 0, 0, 0, 0]) (.int (0 : Int32)) := Arv.set Ar102 q102 S102 M102 H102 G102 rfl W104 6 rfl (Nat.le_of_ble_eq_true rfl)
      have K104 : Keep h0 h104 [a1, bc, bn, s0, s1, s2] := K98.wr W104 (Or.inl (List.mem_of_getElem? (i := 2) rfl))
      have N104 := Fr.snoc X104 N98 g_bn
      have fk105 := ((((F_size.other W83 (Or.inl ne_a1_s2)).other W92 (Or.inl ne_a1_bn)).other W98 (Or.inl ne_a1_bc)).other W104 (Or.inl ne_a1_bn))
      obtain ⟨T106, X106, e106, st106⟩ := gF X104 hx hZ hown (ww hw 10 rfl) e104 fk105 (g := (mkF m 6 #[vR a1, vI 6, vI 2, vI 7, vI 2, vR s2, vI 1, vI 2] [iR a1, iI 7])) rfl rfl (hb hby d7_6)
      have fk107 := ((((E_a1.wr W83).wr W92).wr W98).wr W104)
      obtain ⟨T108, h108, X108, e108, W108, st108⟩ := putF X106 hx hZ hown (host := "") (Or.inl (ww hw 10 rfl)) Via.refl e106 fk105 fk107 (Or.inl (ww hw 11 rfl)) (ww hw 2 rfl) (ty := .int) (by decide) rfl rfl (g := (mkF m 121 #[vR a1, vI 6, vI 2, vI 7, vI 2, vR s2, vI 1, vI 2] [iI 6, iR a1])) rfl rfl (hb hby d7_121)
      have Fw108 := fk105.same W108
      have K108 : Keep h0 h108 [a1, bc, bn, s0, s1, s2] := K104.wr W108 (Or.inl (List.mem_of_getElem? (i := 0) rfl))
      have N108 := Fr.snoc X108 N104 g_a1
      obtain ⟨fs, hr, hrun, hended, hW, hsame⟩ := X108.leave (v := none) (fun _ => rfl)
      have fk109 := (fk107.wr W108)
      have fk110 := (((((F_items.other W83 (Or.inl ne_a1_s2)).other W92 (Or.inl ne_a1_bn)).other W98 (Or.inl ne_a1_bc)).other W104 (Or.inl ne_a1_bn)).other W108 (Or.inr (slot_ne (Or.inl (ww hw 14 rfl)) (Or.inl (ww hw 11 rfl)) (by decide) (t := (.array .int)) (t' := .int) (by decide) (by decide))))
      have fk111 := (((((V_bi.other W83 ne_bi_s2).other W92 ne_bi_bn).other W98 ne_bi_bc).other W104 ne_bi_bn).other W108 (Ne.symm ne_a1_bi))
      have fk112 := (((((F_sameEvents.other W83 (Or.inl ne_a1_s2)).other W92 (Or.inl ne_a1_bn)).other W98 (Or.inl ne_a1_bc)).other W104 (Or.inl ne_a1_bn)).other W108 (Or.inr (slot_ne (Or.inl (ww hw 17 rfl)) (Or.inl (ww hw 11 rfl)) (by decide) (t := (.array .boolean)) (t' := .int) (by decide) (by decide))))
      have fk113 := (((((V_bf.other W83 ne_bf_s2).other W92 ne_bf_bn).other W98 ne_bf_bc).other W104 ne_bf_bn).other W108 (Ne.symm ne_a1_bf))
      have fk114 := (((((F_parents.other W83 (Or.inl ne_a1_s2)).other W92 (Or.inl ne_a1_bn)).other W98 (Or.inl ne_a1_bc)).other W104 (Or.inl ne_a1_bn)).other W108 (Or.inr (slot_ne (Or.inl (ww hw 19 rfl)) (Or.inl (ww hw 11 rfl)) (by decide) (t := (.array .int)) (t' := .int) (by decide) (by decide))))
      have fk115 := (((((V_bp.other W83 ne_bp_s2).other W92 ne_bp_bn).other W98 ne_bp_bc).other W104 ne_bp_bn).other W108 (Ne.symm ne_a1_bp))
      have fk116 := (((fk93.other W98 (Or.inl ne_a1_bc)).other W104 (Or.inl ne_a1_bn)).other W108 (Or.inr (slot_ne (Or.inl (ww hw 23 rfl)) (Or.inl (ww hw 11 rfl)) (by decide) (t := (.array (.array .int))) (t' := .int) (by decide) (by decide))))
      have fk117 := ((V98.other W104 ne_bc_bn).other W108 (Ne.symm ne_a1_bc))
      have fk118 := ((fk99.other W104 (Or.inl ne_a1_bn)).other W108 (Or.inr (slot_ne (Or.inl (ww hw 25 rfl)) (Or.inl (ww hw 11 rfl)) (by decide) (t := (.array .int)) (t' := .int) (by decide) (by decide))))
      have fk119 := (V104.other W108 (Ne.symm ne_a1_bn))
      have fk120 := (((((V_s0.other W83 ne_s0_s2).other W92 (Ne.symm ne_bn_s0)).other W98 (Ne.symm ne_bc_s0)).other W104 (Ne.symm ne_bn_s0)).other W108 (Ne.symm ne_a1_s0))
      have fk121 := (((((E_s0.wr W83).wr W92).wr W98).wr W104).wr W108)
      have fk122 := (((((V_s1.other W83 ne_s1_s2).other W92 (Ne.symm ne_bn_s1)).other W98 (Ne.symm ne_bc_s1)).other W104 (Ne.symm ne_bn_s1)).other W108 (Ne.symm ne_a1_s1))
      have fk123 := (((((E_s1.wr W83).wr W92).wr W98).wr W104).wr W108)
      have fk124 := ((((V83.other W92 (Ne.symm ne_bn_s2)).other W98 (Ne.symm ne_bc_s2)).other W104 (Ne.symm ne_bn_s2)).other W108 (Ne.symm ne_a1_s2))
      have fk125 := (((((E_s2.wr W83).wr W92).wr W98).wr W104).wr W108)
      refine ⟨_, _, pre79 _ ?_, hrun, hended, _, _, rfl, ?_, ⟨_, rfl⟩, hW, hsame.mono (by decide) (by decide)⟩
      · refine XS.icmpNo X73.here hx rfl (hb hby d7_65) rfl (tlt hc78).2.1 ?_
        refine XS.aload X73.here hx rfl (hb hby d7_68) rfl rfl ?_
        refine XS.iload X73.here hx rfl (hb hby d7_70) rfl ?_
        refine XS.iinc X73.here hx rfl (hb hby d7_72) rfl (l' := #[vR a1, vI 6, vI (-1), vI 6, vI 2, vR s2, vI ((0 : Int32) + (1 : Int32)), vI 1]) rfl ?_
        rw [(by decide : ((0 : Int32) + (1 : Int32)) = (1 : Int32))]
        refine XS.aload X73.here hx rfl (hb hby d7_75) rfl rfl ?_
        refine XS.iload X73.here hx rfl (hb hby d7_77) rfl ?_
        show SA T73 m 79 #[vR a1, vI 6, vI (-1), vI 6, vI 2, vR s2, vI 1, vI 1] [iI 1, iR s2, iI 0, iR s2]
        refine X73.iaload hx (j := (1 : Int32)) (v := (.int z1_)) (by rw [e73]; exact Ar14.1) (State.isArrayOf_alike hZ.alike Ar14.2.1) Ar14.2.2 hin80 (Has.at H14 hin80 rfl) (g := (mkF m 79 #[vR a1, vI 6, vI (-1), vI 6, vI 2, vR s2, vI 1, vI 1] [iI 1, iR s2, iI 0, iR s2])) rfl rfl (hb hby d7_79) _ ?_
        refine st83 _ ?_
        refine XS.iinc X83.here hx rfl (hb hby d7_81) rfl (l' := #[vR a1, vI 6, vI (-1), vI 6, vI 2, vR s2, vI 1, vI ((1 : Int32) + (1 : Int32))]) rfl ?_
        rw [(by decide : ((1 : Int32) + (1 : Int32)) = (2 : Int32))]
        refine XS.goto X83.here hx rfl (pc0 := 84) (pc' := 47) rfl (hb hby d7_84) (by decide) (by decide) ?_
        refine XS.iload X83.here hx rfl (hb hby d7_47) rfl ?_
        refine XS.aloadN X83.here hx rfl (hb hby d7_49) rfl rfl ?_
        refine st85 _ ?_
        refine XS.iload X85.here hx rfl (hb hby d7_53) rfl ?_
        refine X85.iaload hx (j := (2 : Int32)) (v := (.int (2 : Int32))) (by rw [e85]; exact Ar87.1) (State.isArrayOf_alike hZ.alike Ar87.2.1) Ar87.2.2 hin88 (Has.at H87 hin88 rfl) (g := (mkF m 55 #[vR a1, vI 6, vI (-1), vI 6, vI 2, vR s2, vI 1, vI 2] [iI 2, iR bn, iI 2])) rfl rfl (hb hby d7_55) _ ?_
        refine XS.icmpYes X85.here hx rfl (pc0 := 56) (pc' := 87) rfl (hb hby d7_56) rfl (flt (by decide : ¬ ((2 : Int32) < (2 : Int32)))).2.1 (by decide) (by decide) ?_
        refine XS.aloadN X85.here hx rfl (hb hby d7_87) rfl rfl ?_
        refine st90 _ ?_
        refine XS.iload X90.here hx rfl (hb hby d7_91) rfl ?_
        refine XS.iload X90.here hx rfl (hb hby d7_93) rfl ?_
        refine st92 _ ?_
        refine XS.iload X92.here hx rfl (hb hby d7_96) rfl ?_
        refine XS.istoreN X92.here hx rfl (hb hby d7_98) rfl (l' := #[vR a1, vI 6, vI 2, vI 6, vI 2, vR s2, vI 1, vI 2]) rfl ?_
        refine XS.aloadN X92.here hx rfl (hb hby d7_99) rfl rfl ?_
        refine st94 _ ?_
        refine XS.iloadN X94.here hx rfl (hb hby d7_103) rfl ?_
        refine XS.aconstNull X94.here hx rfl (hb hby d7_104) ?_
        refine st98 _ ?_
        refine XS.aloadN X98.here hx rfl (hb hby d7_106) rfl rfl ?_
        refine st100 _ ?_
        refine XS.iloadN X100.here hx rfl (hb hby d7_110) rfl ?_
        refine XS.iconst X100.here hx rfl (hb hby d7_111) ?_
        refine st104 _ ?_
        refine XS.iinc X104.here hx rfl (hb hby d7_113) rfl (l' := #[vR a1, vI 6, vI 2, vI ((6 : Int32) + (1 : Int32)), vI 2, vR s2, vI 1, vI 2]) rfl ?_
        rw [(by decide : ((6 : Int32) + (1 : Int32)) = (7 : Int32))]
        refine XS.goto X104.here hx rfl (pc0 := 116) (pc' := 4) rfl (hb hby d7_116) (by decide) (by decide) ?_
        refine XS.iloadN X104.here hx rfl (hb hby d7_4) rfl ?_
        refine XS.aloadN X104.here hx rfl (hb hby d7_5) rfl rfl ?_
        refine st106 _ ?_
        refine XS.icmpYes X106.here hx rfl (pc0 := 9) (pc' := 119) rfl (hb hby d7_9) rfl (flt (by decide : ¬ ((7 : Int32) < (7 : Int32)))).2.1 (by decide) (by decide) ?_
        refine XS.aloadN X106.here hx rfl (hb hby d7_119) rfl rfl ?_
        refine XS.iloadN X106.here hx rfl (hb hby d7_120) rfl ?_
        refine st108 _ ?_
        show Steps _ _ _ (T108.setTop (mkF m 124 #[vR a1, vI 6, vI 2, vI 7, vI 2, vR s2, vI 1, vI 2] [])) _
        exact X108.returnOut hx Bd.returns (hb hby d7_124) hr
      · show Q7_6 Z a1 bi bf bp bc bn ki kf kp kc kn IL FL PL s0 s1 s2 q0 q1 q2 x0_ x1_ x2_ x3_ y1_ y2_ y3_ z0_ z1_ z2_ z3_ h0 n0 _ T108.heap _
        rw [e108]
        exact ⟨x0_, x1_, x2_, x3_, z1_, z1_, z2_, z3_, rfl, N108, K108, fk109, Fw108, fk110, fk111, fk112, fk113, fk114, fk115, fk116, fk117, fk118, fk119, fk120, fk121, fk122, fk123, fk124, fk125, ⟨rfl, rfl, rfl, fun h => absurd h hc17, fun _ => rfl⟩⟩
    · exfalso; exact absurd hpat (by simp only [hc17, hc78, or_false, or_true, true_or, false_or, and_true, true_and, false_and, and_false, not_true_eq_false, not_false_eq_true])
theorem ef_7_7 (m : MethodId) (x0 : Addr) : entryFrame m #[(.ref x0), (.int (7 : Int32))] 8 = mkF m 0 #[.val (.ref x0), .val (.int (7 : Int32)), .unset, .unset, .unset, .unset, .unset, .unset] [] := by first | (simp [entryFrame, mkF, argsToLocals, Value.category]; done) | rfl
def Q7_7 (Z : State) (a1 : Addr) (bi bf bp bc bn : Addr) (ki kf kp kc kn : ClassId) (IL FL PL : List Int32) (s0 s1 s2 : Addr) (q0 q1 q2 : ClassId) (x0_ x1_ x2_ x3_ y1_ y2_ y3_ z0_ z1_ z2_ z3_ : Int32) (h0 : Heap) (n0 : Nat) (v : Option Value) (h : Heap) (L : List Loc) : Prop := own_QT7 Z a1 bi bf bp bc bn ki kf kp kc kn IL FL PL s0 s1 s2 q0 q1 q2 x0_ x1_ x2_ x3_ y1_ y2_ y3_ z0_ z1_ z2_ z3_ h0 n0 v h L
theorem rm7_7 (l : Launch) (Z : State) (a0 : Array Value) (hw : ∀ d ∈ tables_1, d.before a0 Z = true) (ws : List Jvm.Cond) (a1 : Addr) (bi bf bp bc bn : Addr) (ki kf kp kc kn : ClassId) (IL FL PL : List Int32) (s0 s1 s2 : Addr) (q0 q1 q2 : ClassId) (x0_ x1_ x2_ x3_ y1_ y2_ y3_ z0_ z1_ z2_ z3_ : Int32) (h0 : Heap) (n0 : Nat) (Z0 : n0 ≤ h0.size) (E_a1 : Exa Z h0 a1 "com/example/tidemine/tidemine/PatternTrie") (F_size : Fld Z h0 a1 "com/example/tidemine/tidemine/PatternTrie" "size" "I" (.int (7 : Int32))) (F_items : Fld Z h0 a1 "com/example/tidemine/tidemine/PatternTrie" "items" "[I" (.ref bi)) (V_bi : Arv Z h0 bi ki .int (16 : Int32) (own_bs IL) (.int (0 : Int32))) (F_sameEvents : Fld Z h0 a1 "com/example/tidemine/tidemine/PatternTrie" "sameEvents" "[Z" (.ref bf)) (V_bf : Arv Z h0 bf kf .boolean (16 : Int32) (own_bs FL) (.int (0 : Int32))) (F_parents : Fld Z h0 a1 "com/example/tidemine/tidemine/PatternTrie" "parents" "[I" (.ref bp)) (V_bp : Arv Z h0 bp kp .int (16 : Int32) (own_bs PL) (.int (0 : Int32))) (F_children : Fld Z h0 a1 "com/example/tidemine/tidemine/PatternTrie" "children" "[[I" (.ref bc)) (V_bc : Arv Z h0 bc kc (.array .int) (16 : Int32) [(.ref s0), (.ref s1), (.ref s2), .null, .null, .null, .null, .null, .null, .null, .null, .null, .null, .null, .null, .null] .null) (F_childCounts : Fld Z h0 a1 "com/example/tidemine/tidemine/PatternTrie" "childCounts" "[I" (.ref bn)) (V_bn : Arv Z h0 bn kn .int (16 : Int32) (own_bs [3, 1, 2, 0, 0, 0, 0, 0, 0, 0, 0, 0, 0, 0, 0, 0]) (.int (0 : Int32))) (V_s0 : Arv Z h0 s0 q0 .int (4 : Int32) (own_bs [x0_, x1_, x2_, x3_]) (.int (0 : Int32))) (E_s0 : Exa Z h0 s0 "[I") (V_s1 : Arv Z h0 s1 q1 .int (4 : Int32) (own_bs [3, y1_, y2_, y3_]) (.int (0 : Int32))) (E_s1 : Exa Z h0 s1 "[I") (V_s2 : Arv Z h0 s2 q2 .int (4 : Int32) (own_bs [z0_, z1_, z2_, z3_]) (.int (0 : Int32))) (E_s2 : Exa Z h0 s2 "[I") (hpr1 : PL.getD 1 0 = (0 : Int32)) (hpr2 : PL.getD 2 0 = (0 : Int32)) (hpr3 : PL.getD 3 0 = (1 : Int32)) (hpr4 : PL.getD 4 0 = (0 : Int32)) (hpr5 : PL.getD 5 0 = (2 : Int32)) (hpr6 : PL.getD 6 0 = (2 : Int32)) (g_a1 : n0 ≤ a1) (g_bi : n0 ≤ bi) (g_bf : n0 ≤ bf) (g_bp : n0 ≤ bp) (g_bc : n0 ≤ bc) (g_bn : n0 ≤ bn) (g_s0 : n0 ≤ s0) (g_s1 : n0 ≤ s1) (g_s2 : n0 ≤ s2) (ne_a1_bi : a1 ≠ bi) (ne_a1_bf : a1 ≠ bf) (ne_a1_bp : a1 ≠ bp) (ne_a1_bc : a1 ≠ bc) (ne_a1_bn : a1 ≠ bn) (ne_a1_s0 : a1 ≠ s0) (ne_a1_s1 : a1 ≠ s1) (ne_a1_s2 : a1 ≠ s2) (ne_bi_bf : bi ≠ bf) (ne_bi_bp : bi ≠ bp) (ne_bi_bc : bi ≠ bc) (ne_bi_bn : bi ≠ bn) (ne_bi_s0 : bi ≠ s0) (ne_bi_s1 : bi ≠ s1) (ne_bi_s2 : bi ≠ s2) (ne_bf_bp : bf ≠ bp) (ne_bf_bc : bf ≠ bc) (ne_bf_bn : bf ≠ bn) (ne_bf_s0 : bf ≠ s0) (ne_bf_s1 : bf ≠ s1) (ne_bf_s2 : bf ≠ s2) (ne_bp_bc : bp ≠ bc) (ne_bp_bn : bp ≠ bn) (ne_bp_s0 : bp ≠ s0) (ne_bp_s1 : bp ≠ s1) (ne_bp_s2 : bp ≠ s2) (ne_bc_bn : bc ≠ bn) (ne_bc_s0 : bc ≠ s0) (ne_bc_s1 : bc ≠ s1) (ne_bc_s2 : bc ≠ s2) (ne_bn_s0 : bn ≠ s0) (ne_bn_s1 : bn ≠ s1) (ne_bn_s2 : bn ≠ s2) (ne_s0_s1 : s0 ≠ s1) (ne_s0_s2 : s0 ≠ s2) (ne_s1_s2 : s1 ≠ s2) :
    MetFree l mn_4 (head1 (Jvm.Cond.code mn_4 prog_23_method_4_code 8 none :: ws) ({ frames := 0, cells := 0, slots := 0, locals := 0 } : Room)) (fun a U => a = #[(.ref a1), (.int (7 : Int32))] ∧ Z.Warmed39 U.vm ∧ U.heap = h0) (fun _ _ _ _ _ => True) (fun _ U o U' => ∃ v L, o = .returned v ∧ Q7_7 Z a1 bi bf bp bc bn ki kf kp kc kn IL FL PL s0 s1 s2 q0 q1 q2 x0_ x1_ x2_ x3_ y1_ y2_ y3_ z0_ z1_ z2_ z3_ h0 n0 v U'.heap L ∧ FrameEnd U o U' L ({ frames := 0, cells := 0, slots := 0, locals := 0 } : Room).cells ({ frames := 0, cells := 0, slots := 0, locals := 0 } : Room).slots) := by
  refine MetFree.of_bodySF (plainFor_of_name pn_2) hisR ?_
  intro p e s m args below meth c s₁ Bd hml0 hP hK
  obtain ⟨rfl, hZ, hh⟩ := hP
  have hx := Bd.exec
  have hby := Bd.bytes
  have hml : c.maxLocals = 8 := hml0
  have hown : s.vm.findClass "com/example/tidemine/tidemine/PatternTrie" = some m.cls := findClass_of_methodNamed Bd.named
  have hnm := (name_of_methodNamed Bd.named Bd.method).1
  have X0 : Stand p l e ({ frames := 0, cells := 0, slots := 0, locals := 0 } : Room) s m #[(.ref a1), (.int (7 : Int32))] below meth c s₁ [] 0 0 := Stand.of_body Bd
  have e0 : s₁.heap = h0 := by rw [← hh, Bd.state]; rfl
  have N0 := Fr.nil n0
  have K0 := Keep.refl h0 [a1, bc, bn, s0, s1, s2]
  have pre0 : ∀ t, Steps p.tables e below (s₁.setTop (mkF m 0 #[.val (.ref a1), .val (.int (7 : Int32)), .unset, .unset, .unset, .unset, .unset, .unset] [])) t → Steps p.tables e below (s₁.setTop (entryFrame m #[(.ref a1), (.int (7 : Int32))] 8)) t := fun t k => castTop (ef_7_7 m a1) k
  obtain ⟨T1, X1, e1, st1⟩ := gF X0 hx hZ hown (ww hw 10 rfl) e0 F_size (g := (mkF m 6 #[vR a1, vI 7, vI (-1), vI 7, .unset, .unset, .unset, .unset] [iR a1, iI 7])) rfl rfl (hb hby d7_6)
  obtain ⟨T2, h2, X2, e2, W2, st2⟩ := putF X1 hx hZ hown (host := "") (Or.inl (ww hw 10 rfl)) Via.refl e1 F_size E_a1 (Or.inl (ww hw 11 rfl)) (ww hw 2 rfl) (ty := .int) (by decide) rfl rfl (g := (mkF m 121 #[vR a1, vI 7, vI (-1), vI 7, .unset, .unset, .unset, .unset] [iI 7, iR a1])) rfl rfl (hb hby d7_121)
  have Fw2 := F_size.same W2
  have K2 : Keep h0 h2 [a1, bc, bn, s0, s1, s2] := K0.wr W2 (Or.inl (List.mem_of_getElem? (i := 0) rfl))
  have N2 := Fr.snoc X2 N0 g_a1
  obtain ⟨fs, hr, hrun, hended, hW, hsame⟩ := X2.leave (v := none) (fun _ => rfl)
  have fk3 := (E_a1.wr W2)
  have fk4 := (F_items.other W2 (Or.inr (slot_ne (Or.inl (ww hw 14 rfl)) (Or.inl (ww hw 11 rfl)) (by decide) (t := (.array .int)) (t' := .int) (by decide) (by decide))))
  have fk5 := (V_bi.other W2 (Ne.symm ne_a1_bi))
  have fk6 := (F_sameEvents.other W2 (Or.inr (slot_ne (Or.inl (ww hw 17 rfl)) (Or.inl (ww hw 11 rfl)) (by decide) (t := (.array .boolean)) (t' := .int) (by decide) (by decide))))
  have fk7 := (V_bf.other W2 (Ne.symm ne_a1_bf))
  have fk8 := (F_parents.other W2 (Or.inr (slot_ne (Or.inl (ww hw 19 rfl)) (Or.inl (ww hw 11 rfl)) (by decide) (t := (.array .int)) (t' := .int) (by decide) (by decide))))
  have fk9 := (V_bp.other W2 (Ne.symm ne_a1_bp))
  have fk10 := (F_children.other W2 (Or.inr (slot_ne (Or.inl (ww hw 23 rfl)) (Or.inl (ww hw 11 rfl)) (by decide) (t := (.array (.array .int))) (t' := .int) (by decide) (by decide))))
  have fk11 := (V_bc.other W2 (Ne.symm ne_a1_bc))
  have fk12 := (F_childCounts.other W2 (Or.inr (slot_ne (Or.inl (ww hw 25 rfl)) (Or.inl (ww hw 11 rfl)) (by decide) (t := (.array .int)) (t' := .int) (by decide) (by decide))))
  have fk13 := (V_bn.other W2 (Ne.symm ne_a1_bn))
  have fk14 := (V_s0.other W2 (Ne.symm ne_a1_s0))
  have fk15 := (E_s0.wr W2)
  have fk16 := (V_s1.other W2 (Ne.symm ne_a1_s1))
  have fk17 := (E_s1.wr W2)
  have fk18 := (V_s2.other W2 (Ne.symm ne_a1_s2))
  have fk19 := (E_s2.wr W2)
  refine ⟨_, _, pre0 _ ?_, hrun, hended, _, _, rfl, ?_, ⟨_, rfl⟩, hW, hsame.mono (by decide) (by decide)⟩
  · refine XS.iconst X0.here hx rfl (hb hby d7_0) ?_
    refine XS.istoreN X0.here hx rfl (hb hby d7_1) rfl (l' := #[vR a1, vI 7, vI (-1), .unset, .unset, .unset, .unset, .unset]) rfl ?_
    refine XS.iloadN X0.here hx rfl (hb hby d7_2) rfl ?_
    refine XS.istoreN X0.here hx rfl (hb hby d7_3) rfl (l' := #[vR a1, vI 7, vI (-1), vI 7, .unset, .unset, .unset, .unset]) rfl ?_
    refine XS.iloadN X0.here hx rfl (hb hby d7_4) rfl ?_
    refine XS.aloadN X0.here hx rfl (hb hby d7_5) rfl rfl ?_
    show SA s₁ m 6 #[vR a1, vI 7, vI (-1), vI 7, .unset, .unset, .unset, .unset] [iR a1, iI 7]
    refine st1 _ ?_
    refine XS.icmpYes X1.here hx rfl (pc0 := 9) (pc' := 119) rfl (hb hby d7_9) rfl (flt (by decide : ¬ ((7 : Int32) < (7 : Int32)))).2.1 (by decide) (by decide) ?_
    refine XS.aloadN X1.here hx rfl (hb hby d7_119) rfl rfl ?_
    refine XS.iloadN X1.here hx rfl (hb hby d7_120) rfl ?_
    refine st2 _ ?_
    show Steps _ _ _ (T2.setTop (mkF m 124 #[vR a1, vI 7, vI (-1), vI 7, .unset, .unset, .unset, .unset] [])) _
    exact X2.returnOut hx Bd.returns (hb hby d7_124) hr
  · show Q7_7 Z a1 bi bf bp bc bn ki kf kp kc kn IL FL PL s0 s1 s2 q0 q1 q2 x0_ x1_ x2_ x3_ y1_ y2_ y3_ z0_ z1_ z2_ z3_ h0 n0 _ T2.heap _
    rw [e2]
    exact ⟨x0_, x1_, x2_, x3_, z0_, z1_, z2_, z3_, rfl, N2, K2, fk3, Fw2, fk4, fk5, fk6, fk7, fk8, fk9, fk10, fk11, fk12, fk13, fk14, fk15, fk16, fk17, fk18, fk19, ⟨rfl, rfl, rfl, rfl, rfl⟩⟩
theorem own_q6 {κ : Int32 → Int} : ∃ a b c : Int32, own_E0 κ 7 = [a, b, c] ∧ (¬ a < (1 : Int32) ∧ ¬ b < (1 : Int32) ∧ ¬ c < (1 : Int32)) ∧ ((a = 1 ∧ a < (2 : Int32) ∧ ¬ b < (2 : Int32) ∧ ¬ c < (2 : Int32)) ∨ (b = 1 ∧ ¬ a < (2 : Int32) ∧ b < (2 : Int32) ∧ ¬ c < (2 : Int32)) ∨ (c = 1 ∧ ¬ a < (2 : Int32) ∧ ¬ b < (2 : Int32) ∧ c < (2 : Int32))) ∧
    ((¬ a < (3 : Int32) ∧ b < (3 : Int32) ∧ c < (3 : Int32) ∧ own_ins κ 2 [1] = [b, c]) ∨ (a < (3 : Int32) ∧ ¬ b < (3 : Int32) ∧ c < (3 : Int32) ∧ own_ins κ 2 [1] = [a, c]) ∨ (a < (3 : Int32) ∧ b < (3 : Int32) ∧ ¬ c < (3 : Int32) ∧ own_ins κ 2 [1] = [a, b])) ∧
    ((¬ a < (4 : Int32) ∧ b < (4 : Int32) ∧ c < (4 : Int32) ∧ own_ins κ 2 [1] = [b, c]) ∨ (a < (4 : Int32) ∧ ¬ b < (4 : Int32) ∧ c < (4 : Int32) ∧ own_ins κ 2 [1] = [a, c]) ∨ (a < (4 : Int32) ∧ b < (4 : Int32) ∧ ¬ c < (4 : Int32) ∧ own_ins κ 2 [1] = [a, b])) := by
  have e7 : own_E0 κ 7 = own_ins κ 4 (own_ins κ 2 [1]) := rfl
  rw [e7]
  simp only [own_ins]
  by_cases q : κ 1 < κ 2
  · simp only [if_pos q, own_ins]
    by_cases r : κ 1 < κ 4
    · simp only [if_pos r]
      by_cases t : κ 2 < κ 4
      · simp only [if_pos t]; exact ⟨1, 2, 4, rfl, by decide, by decide, by decide, by decide⟩
      · simp only [if_neg t]; exact ⟨1, 4, 2, rfl, by decide, by decide, by decide, by decide⟩
    · simp only [if_neg r]; exact ⟨4, 1, 2, rfl, by decide, by decide, by decide, by decide⟩
  · simp only [if_neg q, own_ins]
    by_cases t : κ 2 < κ 4
    · simp only [if_pos t]
      by_cases r : κ 1 < κ 4
      · simp only [if_pos r]; exact ⟨2, 1, 4, rfl, by decide, by decide, by decide, by decide⟩
      · simp only [if_neg r]; exact ⟨2, 4, 1, rfl, by decide, by decide, by decide, by decide⟩
    · simp only [if_neg t]; exact ⟨4, 2, 1, rfl, by decide, by decide, by decide, by decide⟩
theorem own_q2 {κ : Int32 → Int} : ∃ a b : Int32, own_E2 κ 7 = [a, b] ∧ (¬ a < (3 : Int32) ∧ ¬ b < (3 : Int32)) ∧ (¬ a < (4 : Int32) ∧ ¬ b < (4 : Int32)) ∧ (¬ a < (5 : Int32) ∧ ¬ b < (5 : Int32)) ∧ ((a = 5 ∧ a < (6 : Int32) ∧ ¬ b < (6 : Int32)) ∨ (b = 5 ∧ ¬ a < (6 : Int32) ∧ b < (6 : Int32))) := by
  have e7 : own_E2 κ 7 = own_ins κ 6 [5] := rfl
  rw [e7]
  simp only [own_ins]
  by_cases q : κ 5 < κ 6
  · simp only [if_pos q]; exact ⟨5, 6, rfl, by decide, by decide, by decide, by decide⟩
  · simp only [if_neg q]; exact ⟨6, 5, rfl, by decide, by decide, by decide, by decide⟩

def Q7_u1 (Z : State) (a1 : Addr) (bi bf bp bc bn : Addr) (ki kf kp kc kn : ClassId) (I F : List Int32) (h0 : Heap) (n0 : Nat) (v : Option Value) (h : Heap) (L : List Loc) : Prop := v = none ∧ Fr n0 L ∧ h0.size ≤ h.size ∧ own_St Z h n0 a1 bi bf bp bc bn ki kf kp kc kn I F 1
theorem rm7_u1 (l : Launch) (Z : State) (a0 : Array Value) (hw : ∀ d ∈ tables_1, d.before a0 Z = true) (ws : List Jvm.Cond) (a1 : Addr) (bi bf bp bc bn : Addr) (ki kf kp kc kn : ClassId) (I F : List Int32) (h0 : Heap) (n0 : Nat) (Z0 : n0 ≤ h0.size) (CX : own_Cx Z n0 a1 bi bf bp bc bn kc I F) (ST : own_St Z h0 n0 a1 bi bf bp bc bn ki kf kp kc kn I F 7) :
    MetFree l mn_4 (head1 (Jvm.Cond.code mn_4 prog_23_method_4_code 8 none :: ws) ({ frames := 0, cells := 0, slots := 0, locals := 0 } : Room)) (fun a U => a = #[(.ref a1), (.int (1 : Int32))] ∧ Z.Warmed39 U.vm ∧ U.heap = h0) (fun _ _ _ _ _ => True) (fun _ U o U' => ∃ v L, o = .returned v ∧ Q7_u1 Z a1 bi bf bp bc bn ki kf kp kc kn I F h0 n0 v U'.heap L ∧ FrameEnd U o U' L ({ frames := 0, cells := 0, slots := 0, locals := 0 } : Room).cells ({ frames := 0, cells := 0, slots := 0, locals := 0 } : Room).slots) := by
  obtain ⟨IL, FL, PL, v0, v1, v2, ⟨E_a1, F_size⟩, ⟨F_items, V_bi⟩, ⟨F_sameEvents, V_bf⟩, ⟨F_parents, V_bp⟩, ⟨F_children, V_bc⟩, ⟨F_childCounts, V_bn⟩, ⟨hIL, hFL, hPL⟩, hkey, ⟨B0, B1, B2⟩, hd0, hd1⟩ := ST
  obtain ⟨⟨g_a1, g_bi, g_bf, g_bp, g_bc, g_bn⟩, ⟨ne_a1_bi, ne_a1_bf, ne_a1_bp, ne_a1_bc, ne_a1_bn, ne_bi_bf, ne_bi_bp, ne_bi_bc, ne_bi_bn, ne_bf_bp, ne_bf_bc, ne_bf_bn, ne_bp_bc, ne_bp_bn, ne_bc_bn⟩, O_bc, hfl, hk12, hk14, hk24, hk56⟩ := CX
  obtain ⟨a, b, c, h7, h1, h2, h3, h4⟩ := own_q6 (κ := own_kp I F)
  obtain ⟨d, e, h8, k3, k4, k5, k6⟩ := own_q2 (κ := own_kp I F)
  rw [h7] at B0
  rw [h8] at B2
  obtain ⟨s0, q0, x3, rfl, V0, EX0, g0⟩ := B0
  obtain ⟨s1, q1, y1, y2, y3, rfl, V1, EX1, g1⟩ : own_Bk Z h0 n0 v1 [3] := B1
  obtain ⟨s2, q2, z2, z3, rfl, V2, EX2, g2⟩ := B2
  refine MetFree.mono (rm7_1 l Z a0 hw ws a1 bi bf bp bc bn ki kf kp kc kn IL FL PL s0 s1 s2 q0 q1 q2 a b c x3 y1 y2 y3 d e z2 z3 h0 n0 Z0 E_a1 F_size F_items V_bi F_sameEvents V_bf F_parents V_bp F_children V_bc F_childCounts V_bn V0 EX0 V1 EX1 V2 EX2 (hkey 1 (by decide) (by decide)).2.2 (hkey 2 (by decide) (by decide)).2.2 (hkey 3 (by decide) (by decide)).2.2 (hkey 4 (by decide) (by decide)).2.2 (hkey 5 (by decide) (by decide)).2.2 (hkey 6 (by decide) (by decide)).2.2 g_a1 g_bi g_bf g_bp g_bc g_bn g0 g1 g2 ne_a1_bi ne_a1_bf ne_a1_bp ne_a1_bc ne_a1_bn (E_a1.neArv V0 (ww hw 2 rfl)) (E_a1.neArv V1 (ww hw 2 rfl)) (E_a1.neArv V2 (ww hw 2 rfl)) ne_bi_bf ne_bi_bp ne_bi_bc ne_bi_bn (arv_ne V_bi V0 (Or.inl (by decide))) (arv_ne V_bi V1 (Or.inl (by decide))) (arv_ne V_bi V2 (Or.inl (by decide))) ne_bf_bp ne_bf_bc ne_bf_bn (arv_ne V_bf V0 (Or.inl (by decide))) (arv_ne V_bf V1 (Or.inl (by decide))) (arv_ne V_bf V2 (Or.inl (by decide))) ne_bp_bc ne_bp_bn (arv_ne V_bp V0 (Or.inl (by decide))) (arv_ne V_bp V1 (Or.inl (by decide))) (arv_ne V_bp V2 (Or.inl (by decide))) ne_bc_bn (arv_ne V_bc V0 (Or.inl (by decide))) (arv_ne V_bc V1 (Or.inl (by decide))) (arv_ne V_bc V2 (Or.inl (by decide))) (arv_ne V_bn V0 (Or.inl (by decide))) (arv_ne V_bn V1 (Or.inl (by decide))) (arv_ne V_bn V2 (Or.inl (by decide))) (fun e => (hd0 _ rfl).1 (by rw [e])) (fun e => (hd0 _ rfl).2 (by rw [e])) (fun e => hd1 _ rfl (by rw [e])) h1.1 h1.2.1 h1.2.2) (fun _ _ q => q) (fun _ _ _ _ _ q => q) ?_
  rintro a_ s_ o_ s_' hP ⟨v, L, ho, ⟨r0, r1, r2, r3, u0, u1, u2, u3, hv, N, K, A1, A2, A3, A4, A5, A6, A7, A8, A9, A10, A11, A12, W0, EW0, W1, EW1, W2, EW2, hrel⟩, hF⟩
  have C0 : own_Bk Z s_'.heap n0 (.ref s0) (own_E0 (own_kp I F) 1) := Or.inr ⟨s0, q0, r0, r1, r2, r3, rfl, W0, EW0, g0⟩
  have C2 : own_Bk Z s_'.heap n0 (.null) (own_E2 (own_kp I F) 1) := Or.inl rfl
  have C1 : own_Bk Z s_'.heap n0 (.null) (own_E1 1) := Or.inl rfl
  exact ⟨v, L, ho, ⟨hv, N, K.1, ⟨IL, FL, PL, .ref s0, .null, .null, ⟨A1, A2⟩, ⟨A3, A4⟩, ⟨A5, A6⟩, ⟨A7, A8⟩, ⟨A9, A10⟩, ⟨A11, A12⟩, ⟨hIL, hFL, hPL⟩, fun i z1 z2 => hkey i z1 (by omega), ⟨C0, C1, C2⟩, (fun s z => ⟨(fun q => nomatch q), (fun q => nomatch q)⟩), (fun s z => nomatch z)⟩⟩, hF⟩
def Q7_u2 (Z : State) (a1 : Addr) (bi bf bp bc bn : Addr) (ki kf kp kc kn : ClassId) (I F : List Int32) (h0 : Heap) (n0 : Nat) (v : Option Value) (h : Heap) (L : List Loc) : Prop := v = none ∧ Fr n0 L ∧ h0.size ≤ h.size ∧ own_St Z h n0 a1 bi bf bp bc bn ki kf kp kc kn I F 2
theorem rm7_u2 (l : Launch) (Z : State) (a0 : Array Value) (hw : ∀ d ∈ tables_1, d.before a0 Z = true) (ws : List Jvm.Cond) (a1 : Addr) (bi bf bp bc bn : Addr) (ki kf kp kc kn : ClassId) (I F : List Int32) (h0 : Heap) (n0 : Nat) (Z0 : n0 ≤ h0.size) (CX : own_Cx Z n0 a1 bi bf bp bc bn kc I F) (ST : own_St Z h0 n0 a1 bi bf bp bc bn ki kf kp kc kn I F 7) :
    MetFree l mn_4 (head1 (Jvm.Cond.code mn_4 prog_23_method_4_code 8 none :: ws) ({ frames := 0, cells := 0, slots := 0, locals := 0 } : Room)) (fun a U => a = #[(.ref a1), (.int (2 : Int32))] ∧ Z.Warmed39 U.vm ∧ U.heap = h0) (fun _ _ _ _ _ => True) (fun _ U o U' => ∃ v L, o = .returned v ∧ Q7_u2 Z a1 bi bf bp bc bn ki kf kp kc kn I F h0 n0 v U'.heap L ∧ FrameEnd U o U' L ({ frames := 0, cells := 0, slots := 0, locals := 0 } : Room).cells ({ frames := 0, cells := 0, slots := 0, locals := 0 } : Room).slots) := by
  obtain ⟨IL, FL, PL, v0, v1, v2, ⟨E_a1, F_size⟩, ⟨F_items, V_bi⟩, ⟨F_sameEvents, V_bf⟩, ⟨F_parents, V_bp⟩, ⟨F_children, V_bc⟩, ⟨F_childCounts, V_bn⟩, ⟨hIL, hFL, hPL⟩, hkey, ⟨B0, B1, B2⟩, hd0, hd1⟩ := ST
  obtain ⟨⟨g_a1, g_bi, g_bf, g_bp, g_bc, g_bn⟩, ⟨ne_a1_bi, ne_a1_bf, ne_a1_bp, ne_a1_bc, ne_a1_bn, ne_bi_bf, ne_bi_bp, ne_bi_bc, ne_bi_bn, ne_bf_bp, ne_bf_bc, ne_bf_bn, ne_bp_bc, ne_bp_bn, ne_bc_bn⟩, O_bc, hfl, hk12, hk14, hk24, hk56⟩ := CX
  obtain ⟨a, b, c, h7, h1, h2, h3, h4⟩ := own_q6 (κ := own_kp I F)
  obtain ⟨d, e, h8, k3, k4, k5, k6⟩ := own_q2 (κ := own_kp I F)
  rw [h7] at B0
  rw [h8] at B2
  obtain ⟨s0, q0, x3, rfl, V0, EX0, g0⟩ := B0
  obtain ⟨s1, q1, y1, y2, y3, rfl, V1, EX1, g1⟩ : own_Bk Z h0 n0 v1 [3] := B1
  obtain ⟨s2, q2, z2, z3, rfl, V2, EX2, g2⟩ := B2
  refine MetFree.mono (rm7_2 l Z a0 hw ws a1 bi bf bp bc bn ki kf kp kc kn IL FL PL s0 s1 s2 q0 q1 q2 a b c x3 y1 y2 y3 d e z2 z3 h0 n0 Z0 E_a1 F_size F_items V_bi F_sameEvents V_bf F_parents V_bp F_children V_bc F_childCounts V_bn V0 EX0 V1 EX1 V2 EX2 (hkey 1 (by decide) (by decide)).2.2 (hkey 2 (by decide) (by decide)).2.2 (hkey 3 (by decide) (by decide)).2.2 (hkey 4 (by decide) (by decide)).2.2 (hkey 5 (by decide) (by decide)).2.2 (hkey 6 (by decide) (by decide)).2.2 g_a1 g_bi g_bf g_bp g_bc g_bn g0 g1 g2 ne_a1_bi ne_a1_bf ne_a1_bp ne_a1_bc ne_a1_bn (E_a1.neArv V0 (ww hw 2 rfl)) (E_a1.neArv V1 (ww hw 2 rfl)) (E_a1.neArv V2 (ww hw 2 rfl)) ne_bi_bf ne_bi_bp ne_bi_bc ne_bi_bn (arv_ne V_bi V0 (Or.inl (by decide))) (arv_ne V_bi V1 (Or.inl (by decide))) (arv_ne V_bi V2 (Or.inl (by decide))) ne_bf_bp ne_bf_bc ne_bf_bn (arv_ne V_bf V0 (Or.inl (by decide))) (arv_ne V_bf V1 (Or.inl (by decide))) (arv_ne V_bf V2 (Or.inl (by decide))) ne_bp_bc ne_bp_bn (arv_ne V_bp V0 (Or.inl (by decide))) (arv_ne V_bp V1 (Or.inl (by decide))) (arv_ne V_bp V2 (Or.inl (by decide))) ne_bc_bn (arv_ne V_bc V0 (Or.inl (by decide))) (arv_ne V_bc V1 (Or.inl (by decide))) (arv_ne V_bc V2 (Or.inl (by decide))) (arv_ne V_bn V0 (Or.inl (by decide))) (arv_ne V_bn V1 (Or.inl (by decide))) (arv_ne V_bn V2 (Or.inl (by decide))) (fun e => (hd0 _ rfl).1 (by rw [e])) (fun e => (hd0 _ rfl).2 (by rw [e])) (fun e => hd1 _ rfl (by rw [e])) (h2.imp (·.2) (·.imp (·.2) (·.2)))) (fun _ _ q => q) (fun _ _ _ _ _ q => q) ?_
  rintro a_ s_ o_ s_' hP ⟨v, L, ho, ⟨r0, r1, r2, r3, u0, u1, u2, u3, hv, N, K, A1, A2, A3, A4, A5, A6, A7, A8, A9, A10, A11, A12, W0, EW0, W1, EW1, W2, EW2, hrel⟩, hF⟩
  have hr : r0 = 1 := by
    rcases h2 with ⟨z, p⟩ | ⟨z, p⟩ | ⟨z, p⟩
    · exact (hrel.1 p.1).trans z
    · exact (hrel.2.1 p.2.1).trans z
    · exact (hrel.2.2 p.2.2).trans z
  subst hr
  have C0 : own_Bk Z s_'.heap n0 (.ref s0) (own_E0 (own_kp I F) 2) := ⟨s0, q0, r1, r2, r3, rfl, W0, EW0, g0⟩
  have C2 : own_Bk Z s_'.heap n0 (.null) (own_E2 (own_kp I F) 2) := Or.inl rfl
  have C1 : own_Bk Z s_'.heap n0 (.ref s1) (own_E1 2) := Or.inr ⟨s1, q1, 3, y1, y2, y3, rfl, W1, EW1, g1⟩
  exact ⟨v, L, ho, ⟨hv, N, K.1, ⟨IL, FL, PL, .ref s0, .ref s1, .null, ⟨A1, A2⟩, ⟨A3, A4⟩, ⟨A5, A6⟩, ⟨A7, A8⟩, ⟨A9, A10⟩, ⟨A11, A12⟩, ⟨hIL, hFL, hPL⟩, fun i z1 z2 => hkey i z1 (by omega), ⟨C0, C1, C2⟩, (fun s z => ⟨(hd0 s z).1, (fun q => nomatch q)⟩), (fun s z q => nomatch q)⟩⟩, hF⟩
def Q7_u3 (Z : State) (a1 : Addr) (bi bf bp bc bn : Addr) (ki kf kp kc kn : ClassId) (I F : List Int32) (h0 : Heap) (n0 : Nat) (v : Option Value) (h : Heap) (L : List Loc) : Prop := v = none ∧ Fr n0 L ∧ h0.size ≤ h.size ∧ own_St Z h n0 a1 bi bf bp bc bn ki kf kp kc kn I F 3
theorem rm7_u3 (l : Launch) (Z : State) (a0 : Array Value) (hw : ∀ d ∈ tables_1, d.before a0 Z = true) (ws : List Jvm.Cond) (a1 : Addr) (bi bf bp bc bn : Addr) (ki kf kp kc kn : ClassId) (I F : List Int32) (h0 : Heap) (n0 : Nat) (Z0 : n0 ≤ h0.size) (CX : own_Cx Z n0 a1 bi bf bp bc bn kc I F) (ST : own_St Z h0 n0 a1 bi bf bp bc bn ki kf kp kc kn I F 7) :
    MetFree l mn_4 (head1 (Jvm.Cond.code mn_4 prog_23_method_4_code 8 none :: ws) ({ frames := 0, cells := 0, slots := 0, locals := 0 } : Room)) (fun a U => a = #[(.ref a1), (.int (3 : Int32))] ∧ Z.Warmed39 U.vm ∧ U.heap = h0) (fun _ _ _ _ _ => True) (fun _ U o U' => ∃ v L, o = .returned v ∧ Q7_u3 Z a1 bi bf bp bc bn ki kf kp kc kn I F h0 n0 v U'.heap L ∧ FrameEnd U o U' L ({ frames := 0, cells := 0, slots := 0, locals := 0 } : Room).cells ({ frames := 0, cells := 0, slots := 0, locals := 0 } : Room).slots) := by
  obtain ⟨IL, FL, PL, v0, v1, v2, ⟨E_a1, F_size⟩, ⟨F_items, V_bi⟩, ⟨F_sameEvents, V_bf⟩, ⟨F_parents, V_bp⟩, ⟨F_children, V_bc⟩, ⟨F_childCounts, V_bn⟩, ⟨hIL, hFL, hPL⟩, hkey, ⟨B0, B1, B2⟩, hd0, hd1⟩ := ST
  obtain ⟨⟨g_a1, g_bi, g_bf, g_bp, g_bc, g_bn⟩, ⟨ne_a1_bi, ne_a1_bf, ne_a1_bp, ne_a1_bc, ne_a1_bn, ne_bi_bf, ne_bi_bp, ne_bi_bc, ne_bi_bn, ne_bf_bp, ne_bf_bc, ne_bf_bn, ne_bp_bc, ne_bp_bn, ne_bc_bn⟩, O_bc, hfl, hk12, hk14, hk24, hk56⟩ := CX
  obtain ⟨a, b, c, h7, h1, h2, h3, h4⟩ := own_q6 (κ := own_kp I F)
  obtain ⟨d, e, h8, k3, k4, k5, k6⟩ := own_q2 (κ := own_kp I F)
  rw [h7] at B0
  rw [h8] at B2
  obtain ⟨s0, q0, x3, rfl, V0, EX0, g0⟩ := B0
  obtain ⟨s1, q1, y1, y2, y3, rfl, V1, EX1, g1⟩ : own_Bk Z h0 n0 v1 [3] := B1
  obtain ⟨s2, q2, z2, z3, rfl, V2, EX2, g2⟩ := B2
  refine MetFree.mono (rm7_3 l Z a0 hw ws a1 bi bf bp bc bn ki kf kp kc kn IL FL PL s0 s1 s2 q0 q1 q2 a b c x3 y1 y2 y3 d e z2 z3 h0 n0 Z0 E_a1 F_size F_items V_bi F_sameEvents V_bf F_parents V_bp F_children V_bc F_childCounts V_bn V0 EX0 V1 EX1 V2 EX2 (hkey 1 (by decide) (by decide)).2.2 (hkey 2 (by decide) (by decide)).2.2 (hkey 3 (by decide) (by decide)).2.2 (hkey 4 (by decide) (by decide)).2.2 (hkey 5 (by decide) (by decide)).2.2 (hkey 6 (by decide) (by decide)).2.2 g_a1 g_bi g_bf g_bp g_bc g_bn g0 g1 g2 ne_a1_bi ne_a1_bf ne_a1_bp ne_a1_bc ne_a1_bn (E_a1.neArv V0 (ww hw 2 rfl)) (E_a1.neArv V1 (ww hw 2 rfl)) (E_a1.neArv V2 (ww hw 2 rfl)) ne_bi_bf ne_bi_bp ne_bi_bc ne_bi_bn (arv_ne V_bi V0 (Or.inl (by decide))) (arv_ne V_bi V1 (Or.inl (by decide))) (arv_ne V_bi V2 (Or.inl (by decide))) ne_bf_bp ne_bf_bc ne_bf_bn (arv_ne V_bf V0 (Or.inl (by decide))) (arv_ne V_bf V1 (Or.inl (by decide))) (arv_ne V_bf V2 (Or.inl (by decide))) ne_bp_bc ne_bp_bn (arv_ne V_bp V0 (Or.inl (by decide))) (arv_ne V_bp V1 (Or.inl (by decide))) (arv_ne V_bp V2 (Or.inl (by decide))) ne_bc_bn (arv_ne V_bc V0 (Or.inl (by decide))) (arv_ne V_bc V1 (Or.inl (by decide))) (arv_ne V_bc V2 (Or.inl (by decide))) (arv_ne V_bn V0 (Or.inl (by decide))) (arv_ne V_bn V1 (Or.inl (by decide))) (arv_ne V_bn V2 (Or.inl (by decide))) (fun e => (hd0 _ rfl).1 (by rw [e])) (fun e => (hd0 _ rfl).2 (by rw [e])) (fun e => hd1 _ rfl (by rw [e])) k3.1 k3.2 (h3.imp (fun z => ⟨z.1, z.2.1, z.2.2.1⟩) (·.imp (fun z => ⟨z.1, z.2.1, z.2.2.1⟩) (fun z => ⟨z.1, z.2.1, z.2.2.1⟩)))) (fun _ _ q => q) (fun _ _ _ _ _ q => q) ?_
  rintro a_ s_ o_ s_' hP ⟨v, L, ho, ⟨r0, r1, r2, r3, u0, u1, u2, u3, hv, N, K, A1, A2, A3, A4, A5, A6, A7, A8, A9, A10, A11, A12, W0, EW0, W1, EW1, W2, EW2, hrel⟩, hF⟩
  have C0 : own_Bk Z s_'.heap n0 (.ref s0) (own_E0 (own_kp I F) 3) := by
    show own_Bk Z s_'.heap n0 (.ref s0) (own_ins (own_kp I F) 2 [1])
    rcases h3 with ⟨p1, p2, p3, z⟩ | ⟨p1, p2, p3, z⟩ | ⟨p1, p2, p3, z⟩
    · obtain ⟨rfl, rfl⟩ := hrel.1 p1
      rw [z]; exact ⟨s0, q0, r2, r3, rfl, W0, EW0, g0⟩
    · obtain ⟨rfl, rfl⟩ := hrel.2.1 p2
      rw [z]; exact ⟨s0, q0, r2, r3, rfl, W0, EW0, g0⟩
    · obtain ⟨rfl, rfl⟩ := hrel.2.2 p3
      rw [z]; exact ⟨s0, q0, r2, r3, rfl, W0, EW0, g0⟩
  have C2 : own_Bk Z s_'.heap n0 (.ref s2) (own_E2 (own_kp I F) 3) := Or.inr ⟨s2, q2, u0, u1, u2, u3, rfl, W2, EW2, g2⟩
  have C1 : own_Bk Z s_'.heap n0 (.ref s1) (own_E1 3) := Or.inr ⟨s1, q1, 3, y1, y2, y3, rfl, W1, EW1, g1⟩
  exact ⟨v, L, ho, ⟨hv, N, K.1, ⟨IL, FL, PL, .ref s0, .ref s1, .ref s2, ⟨A1, A2⟩, ⟨A3, A4⟩, ⟨A5, A6⟩, ⟨A7, A8⟩, ⟨A9, A10⟩, ⟨A11, A12⟩, ⟨hIL, hFL, hPL⟩, fun i z1 z2 => hkey i z1 (by omega), ⟨C0, C1, C2⟩, hd0, hd1⟩⟩, hF⟩
def Q7_u4 (Z : State) (a1 : Addr) (bi bf bp bc bn : Addr) (ki kf kp kc kn : ClassId) (I F : List Int32) (h0 : Heap) (n0 : Nat) (v : Option Value) (h : Heap) (L : List Loc) : Prop := v = none ∧ Fr n0 L ∧ h0.size ≤ h.size ∧ own_St Z h n0 a1 bi bf bp bc bn ki kf kp kc kn I F 4
theorem rm7_u4 (l : Launch) (Z : State) (a0 : Array Value) (hw : ∀ d ∈ tables_1, d.before a0 Z = true) (ws : List Jvm.Cond) (a1 : Addr) (bi bf bp bc bn : Addr) (ki kf kp kc kn : ClassId) (I F : List Int32) (h0 : Heap) (n0 : Nat) (Z0 : n0 ≤ h0.size) (CX : own_Cx Z n0 a1 bi bf bp bc bn kc I F) (ST : own_St Z h0 n0 a1 bi bf bp bc bn ki kf kp kc kn I F 7) :
    MetFree l mn_4 (head1 (Jvm.Cond.code mn_4 prog_23_method_4_code 8 none :: ws) ({ frames := 0, cells := 0, slots := 0, locals := 0 } : Room)) (fun a U => a = #[(.ref a1), (.int (4 : Int32))] ∧ Z.Warmed39 U.vm ∧ U.heap = h0) (fun _ _ _ _ _ => True) (fun _ U o U' => ∃ v L, o = .returned v ∧ Q7_u4 Z a1 bi bf bp bc bn ki kf kp kc kn I F h0 n0 v U'.heap L ∧ FrameEnd U o U' L ({ frames := 0, cells := 0, slots := 0, locals := 0 } : Room).cells ({ frames := 0, cells := 0, slots := 0, locals := 0 } : Room).slots) := by
  obtain ⟨IL, FL, PL, v0, v1, v2, ⟨E_a1, F_size⟩, ⟨F_items, V_bi⟩, ⟨F_sameEvents, V_bf⟩, ⟨F_parents, V_bp⟩, ⟨F_children, V_bc⟩, ⟨F_childCounts, V_bn⟩, ⟨hIL, hFL, hPL⟩, hkey, ⟨B0, B1, B2⟩, hd0, hd1⟩ := ST
  obtain ⟨⟨g_a1, g_bi, g_bf, g_bp, g_bc, g_bn⟩, ⟨ne_a1_bi, ne_a1_bf, ne_a1_bp, ne_a1_bc, ne_a1_bn, ne_bi_bf, ne_bi_bp, ne_bi_bc, ne_bi_bn, ne_bf_bp, ne_bf_bc, ne_bf_bn, ne_bp_bc, ne_bp_bn, ne_bc_bn⟩, O_bc, hfl, hk12, hk14, hk24, hk56⟩ := CX
  obtain ⟨a, b, c, h7, h1, h2, h3, h4⟩ := own_q6 (κ := own_kp I F)
  obtain ⟨d, e, h8, k3, k4, k5, k6⟩ := own_q2 (κ := own_kp I F)
  rw [h7] at B0
  rw [h8] at B2
  obtain ⟨s0, q0, x3, rfl, V0, EX0, g0⟩ := B0
  obtain ⟨s1, q1, y1, y2, y3, rfl, V1, EX1, g1⟩ : own_Bk Z h0 n0 v1 [3] := B1
  obtain ⟨s2, q2, z2, z3, rfl, V2, EX2, g2⟩ := B2
  refine MetFree.mono (rm7_4 l Z a0 hw ws a1 bi bf bp bc bn ki kf kp kc kn IL FL PL s0 s1 s2 q0 q1 q2 a b c x3 y1 y2 y3 d e z2 z3 h0 n0 Z0 E_a1 F_size F_items V_bi F_sameEvents V_bf F_parents V_bp F_children V_bc F_childCounts V_bn V0 EX0 V1 EX1 V2 EX2 (hkey 1 (by decide) (by decide)).2.2 (hkey 2 (by decide) (by decide)).2.2 (hkey 3 (by decide) (by decide)).2.2 (hkey 4 (by decide) (by decide)).2.2 (hkey 5 (by decide) (by decide)).2.2 (hkey 6 (by decide) (by decide)).2.2 g_a1 g_bi g_bf g_bp g_bc g_bn g0 g1 g2 ne_a1_bi ne_a1_bf ne_a1_bp ne_a1_bc ne_a1_bn (E_a1.neArv V0 (ww hw 2 rfl)) (E_a1.neArv V1 (ww hw 2 rfl)) (E_a1.neArv V2 (ww hw 2 rfl)) ne_bi_bf ne_bi_bp ne_bi_bc ne_bi_bn (arv_ne V_bi V0 (Or.inl (by decide))) (arv_ne V_bi V1 (Or.inl (by decide))) (arv_ne V_bi V2 (Or.inl (by decide))) ne_bf_bp ne_bf_bc ne_bf_bn (arv_ne V_bf V0 (Or.inl (by decide))) (arv_ne V_bf V1 (Or.inl (by decide))) (arv_ne V_bf V2 (Or.inl (by decide))) ne_bp_bc ne_bp_bn (arv_ne V_bp V0 (Or.inl (by decide))) (arv_ne V_bp V1 (Or.inl (by decide))) (arv_ne V_bp V2 (Or.inl (by decide))) ne_bc_bn (arv_ne V_bc V0 (Or.inl (by decide))) (arv_ne V_bc V1 (Or.inl (by decide))) (arv_ne V_bc V2 (Or.inl (by decide))) (arv_ne V_bn V0 (Or.inl (by decide))) (arv_ne V_bn V1 (Or.inl (by decide))) (arv_ne V_bn V2 (Or.inl (by decide))) (fun e => (hd0 _ rfl).1 (by rw [e])) (fun e => (hd0 _ rfl).2 (by rw [e])) (fun e => hd1 _ rfl (by rw [e])) k4.1 k4.2 (h4.imp (fun z => ⟨z.1, z.2.1, z.2.2.1⟩) (·.imp (fun z => ⟨z.1, z.2.1, z.2.2.1⟩) (fun z => ⟨z.1, z.2.1, z.2.2.1⟩)))) (fun _ _ q => q) (fun _ _ _ _ _ q => q) ?_
  rintro a_ s_ o_ s_' hP ⟨v, L, ho, ⟨r0, r1, r2, r3, u0, u1, u2, u3, hv, N, K, A1, A2, A3, A4, A5, A6, A7, A8, A9, A10, A11, A12, W0, EW0, W1, EW1, W2, EW2, hrel⟩, hF⟩
  have C0 : own_Bk Z s_'.heap n0 (.ref s0) (own_E0 (own_kp I F) 4) := by
    show own_Bk Z s_'.heap n0 (.ref s0) (own_ins (own_kp I F) 2 [1])
    rcases h4 with ⟨p1, p2, p3, z⟩ | ⟨p1, p2, p3, z⟩ | ⟨p1, p2, p3, z⟩
    · obtain ⟨rfl, rfl⟩ := hrel.1 p1
      rw [z]; exact ⟨s0, q0, r2, r3, rfl, W0, EW0, g0⟩
    · obtain ⟨rfl, rfl⟩ := hrel.2.1 p2
      rw [z]; exact ⟨s0, q0, r2, r3, rfl, W0, EW0, g0⟩
    · obtain ⟨rfl, rfl⟩ := hrel.2.2 p3
      rw [z]; exact ⟨s0, q0, r2, r3, rfl, W0, EW0, g0⟩
  have C2 : own_Bk Z s_'.heap n0 (.ref s2) (own_E2 (own_kp I F) 4) := Or.inr ⟨s2, q2, u0, u1, u2, u3, rfl, W2, EW2, g2⟩
  have C1 : own_Bk Z s_'.heap n0 (.ref s1) (own_E1 4) := ⟨s1, q1, y1, y2, y3, rfl, W1, EW1, g1⟩
  exact ⟨v, L, ho, ⟨hv, N, K.1, ⟨IL, FL, PL, .ref s0, .ref s1, .ref s2, ⟨A1, A2⟩, ⟨A3, A4⟩, ⟨A5, A6⟩, ⟨A7, A8⟩, ⟨A9, A10⟩, ⟨A11, A12⟩, ⟨hIL, hFL, hPL⟩, fun i z1 z2 => hkey i z1 (by omega), ⟨C0, C1, C2⟩, hd0, hd1⟩⟩, hF⟩
def Q7_u5 (Z : State) (a1 : Addr) (bi bf bp bc bn : Addr) (ki kf kp kc kn : ClassId) (I F : List Int32) (h0 : Heap) (n0 : Nat) (v : Option Value) (h : Heap) (L : List Loc) : Prop := v = none ∧ Fr n0 L ∧ h0.size ≤ h.size ∧ own_St Z h n0 a1 bi bf bp bc bn ki kf kp kc kn I F 5
theorem rm7_u5 (l : Launch) (Z : State) (a0 : Array Value) (hw : ∀ d ∈ tables_1, d.before a0 Z = true) (ws : List Jvm.Cond) (a1 : Addr) (bi bf bp bc bn : Addr) (ki kf kp kc kn : ClassId) (I F : List Int32) (h0 : Heap) (n0 : Nat) (Z0 : n0 ≤ h0.size) (CX : own_Cx Z n0 a1 bi bf bp bc bn kc I F) (ST : own_St Z h0 n0 a1 bi bf bp bc bn ki kf kp kc kn I F 7) :
    MetFree l mn_4 (head1 (Jvm.Cond.code mn_4 prog_23_method_4_code 8 none :: ws) ({ frames := 0, cells := 0, slots := 0, locals := 0 } : Room)) (fun a U => a = #[(.ref a1), (.int (5 : Int32))] ∧ Z.Warmed39 U.vm ∧ U.heap = h0) (fun _ _ _ _ _ => True) (fun _ U o U' => ∃ v L, o = .returned v ∧ Q7_u5 Z a1 bi bf bp bc bn ki kf kp kc kn I F h0 n0 v U'.heap L ∧ FrameEnd U o U' L ({ frames := 0, cells := 0, slots := 0, locals := 0 } : Room).cells ({ frames := 0, cells := 0, slots := 0, locals := 0 } : Room).slots) := by
  obtain ⟨IL, FL, PL, v0, v1, v2, ⟨E_a1, F_size⟩, ⟨F_items, V_bi⟩, ⟨F_sameEvents, V_bf⟩, ⟨F_parents, V_bp⟩, ⟨F_children, V_bc⟩, ⟨F_childCounts, V_bn⟩, ⟨hIL, hFL, hPL⟩, hkey, ⟨B0, B1, B2⟩, hd0, hd1⟩ := ST
  obtain ⟨⟨g_a1, g_bi, g_bf, g_bp, g_bc, g_bn⟩, ⟨ne_a1_bi, ne_a1_bf, ne_a1_bp, ne_a1_bc, ne_a1_bn, ne_bi_bf, ne_bi_bp, ne_bi_bc, ne_bi_bn, ne_bf_bp, ne_bf_bc, ne_bf_bn, ne_bp_bc, ne_bp_bn, ne_bc_bn⟩, O_bc, hfl, hk12, hk14, hk24, hk56⟩ := CX
  obtain ⟨a, b, c, h7, h1, h2, h3, h4⟩ := own_q6 (κ := own_kp I F)
  obtain ⟨d, e, h8, k3, k4, k5, k6⟩ := own_q2 (κ := own_kp I F)
  rw [h7] at B0
  rw [h8] at B2
  obtain ⟨s0, q0, x3, rfl, V0, EX0, g0⟩ := B0
  obtain ⟨s1, q1, y1, y2, y3, rfl, V1, EX1, g1⟩ : own_Bk Z h0 n0 v1 [3] := B1
  obtain ⟨s2, q2, z2, z3, rfl, V2, EX2, g2⟩ := B2
  refine MetFree.mono (rm7_5 l Z a0 hw ws a1 bi bf bp bc bn ki kf kp kc kn IL FL PL s0 s1 s2 q0 q1 q2 a b c x3 y1 y2 y3 d e z2 z3 h0 n0 Z0 E_a1 F_size F_items V_bi F_sameEvents V_bf F_parents V_bp F_children V_bc F_childCounts V_bn V0 EX0 V1 EX1 V2 EX2 (hkey 1 (by decide) (by decide)).2.2 (hkey 2 (by decide) (by decide)).2.2 (hkey 3 (by decide) (by decide)).2.2 (hkey 4 (by decide) (by decide)).2.2 (hkey 5 (by decide) (by decide)).2.2 (hkey 6 (by decide) (by decide)).2.2 g_a1 g_bi g_bf g_bp g_bc g_bn g0 g1 g2 ne_a1_bi ne_a1_bf ne_a1_bp ne_a1_bc ne_a1_bn (E_a1.neArv V0 (ww hw 2 rfl)) (E_a1.neArv V1 (ww hw 2 rfl)) (E_a1.neArv V2 (ww hw 2 rfl)) ne_bi_bf ne_bi_bp ne_bi_bc ne_bi_bn (arv_ne V_bi V0 (Or.inl (by decide))) (arv_ne V_bi V1 (Or.inl (by decide))) (arv_ne V_bi V2 (Or.inl (by decide))) ne_bf_bp ne_bf_bc ne_bf_bn (arv_ne V_bf V0 (Or.inl (by decide))) (arv_ne V_bf V1 (Or.inl (by decide))) (arv_ne V_bf V2 (Or.inl (by decide))) ne_bp_bc ne_bp_bn (arv_ne V_bp V0 (Or.inl (by decide))) (arv_ne V_bp V1 (Or.inl (by decide))) (arv_ne V_bp V2 (Or.inl (by decide))) ne_bc_bn (arv_ne V_bc V0 (Or.inl (by decide))) (arv_ne V_bc V1 (Or.inl (by decide))) (arv_ne V_bc V2 (Or.inl (by decide))) (arv_ne V_bn V0 (Or.inl (by decide))) (arv_ne V_bn V1 (Or.inl (by decide))) (arv_ne V_bn V2 (Or.inl (by decide))) (fun e => (hd0 _ rfl).1 (by rw [e])) (fun e => (hd0 _ rfl).2 (by rw [e])) (fun e => hd1 _ rfl (by rw [e])) k5.1 k5.2) (fun _ _ q => q) (fun _ _ _ _ _ q => q) ?_
  rintro a_ s_ o_ s_' hP ⟨v, L, ho, ⟨r0, r1, r2, r3, u0, u1, u2, u3, hv, N, K, A1, A2, A3, A4, A5, A6, A7, A8, A9, A10, A11, A12, W0, EW0, W1, EW1, W2, EW2, hrel⟩, hF⟩
  obtain ⟨rfl, rfl, rfl⟩ := hrel
  have C0 : own_Bk Z s_'.heap n0 (.ref s0) (own_E0 (own_kp I F) 5) := by
    show own_Bk Z s_'.heap n0 (.ref s0) (own_E0 (own_kp I F) 7)
    rw [h7]; exact ⟨s0, q0, r3, rfl, W0, EW0, g0⟩
  have C2 : own_Bk Z s_'.heap n0 (.ref s2) (own_E2 (own_kp I F) 5) := Or.inr ⟨s2, q2, u0, u1, u2, u3, rfl, W2, EW2, g2⟩
  have C1 : own_Bk Z s_'.heap n0 (.ref s1) (own_E1 5) := ⟨s1, q1, y1, y2, y3, rfl, W1, EW1, g1⟩
  exact ⟨v, L, ho, ⟨hv, N, K.1, ⟨IL, FL, PL, .ref s0, .ref s1, .ref s2, ⟨A1, A2⟩, ⟨A3, A4⟩, ⟨A5, A6⟩, ⟨A7, A8⟩, ⟨A9, A10⟩, ⟨A11, A12⟩, ⟨hIL, hFL, hPL⟩, fun i z1 z2 => hkey i z1 (by omega), ⟨C0, C1, C2⟩, hd0, hd1⟩⟩, hF⟩
def Q7_u6 (Z : State) (a1 : Addr) (bi bf bp bc bn : Addr) (ki kf kp kc kn : ClassId) (I F : List Int32) (h0 : Heap) (n0 : Nat) (v : Option Value) (h : Heap) (L : List Loc) : Prop := v = none ∧ Fr n0 L ∧ h0.size ≤ h.size ∧ own_St Z h n0 a1 bi bf bp bc bn ki kf kp kc kn I F 6
theorem rm7_u6 (l : Launch) (Z : State) (a0 : Array Value) (hw : ∀ d ∈ tables_1, d.before a0 Z = true) (ws : List Jvm.Cond) (a1 : Addr) (bi bf bp bc bn : Addr) (ki kf kp kc kn : ClassId) (I F : List Int32) (h0 : Heap) (n0 : Nat) (Z0 : n0 ≤ h0.size) (CX : own_Cx Z n0 a1 bi bf bp bc bn kc I F) (ST : own_St Z h0 n0 a1 bi bf bp bc bn ki kf kp kc kn I F 7) :
    MetFree l mn_4 (head1 (Jvm.Cond.code mn_4 prog_23_method_4_code 8 none :: ws) ({ frames := 0, cells := 0, slots := 0, locals := 0 } : Room)) (fun a U => a = #[(.ref a1), (.int (6 : Int32))] ∧ Z.Warmed39 U.vm ∧ U.heap = h0) (fun _ _ _ _ _ => True) (fun _ U o U' => ∃ v L, o = .returned v ∧ Q7_u6 Z a1 bi bf bp bc bn ki kf kp kc kn I F h0 n0 v U'.heap L ∧ FrameEnd U o U' L ({ frames := 0, cells := 0, slots := 0, locals := 0 } : Room).cells ({ frames := 0, cells := 0, slots := 0, locals := 0 } : Room).slots) := by
  obtain ⟨IL, FL, PL, v0, v1, v2, ⟨E_a1, F_size⟩, ⟨F_items, V_bi⟩, ⟨F_sameEvents, V_bf⟩, ⟨F_parents, V_bp⟩, ⟨F_children, V_bc⟩, ⟨F_childCounts, V_bn⟩, ⟨hIL, hFL, hPL⟩, hkey, ⟨B0, B1, B2⟩, hd0, hd1⟩ := ST
  obtain ⟨⟨g_a1, g_bi, g_bf, g_bp, g_bc, g_bn⟩, ⟨ne_a1_bi, ne_a1_bf, ne_a1_bp, ne_a1_bc, ne_a1_bn, ne_bi_bf, ne_bi_bp, ne_bi_bc, ne_bi_bn, ne_bf_bp, ne_bf_bc, ne_bf_bn, ne_bp_bc, ne_bp_bn, ne_bc_bn⟩, O_bc, hfl, hk12, hk14, hk24, hk56⟩ := CX
  obtain ⟨a, b, c, h7, h1, h2, h3, h4⟩ := own_q6 (κ := own_kp I F)
  obtain ⟨d, e, h8, k3, k4, k5, k6⟩ := own_q2 (κ := own_kp I F)
  rw [h7] at B0
  rw [h8] at B2
  obtain ⟨s0, q0, x3, rfl, V0, EX0, g0⟩ := B0
  obtain ⟨s1, q1, y1, y2, y3, rfl, V1, EX1, g1⟩ : own_Bk Z h0 n0 v1 [3] := B1
  obtain ⟨s2, q2, z2, z3, rfl, V2, EX2, g2⟩ := B2
  refine MetFree.mono (rm7_6 l Z a0 hw ws a1 bi bf bp bc bn ki kf kp kc kn IL FL PL s0 s1 s2 q0 q1 q2 a b c x3 y1 y2 y3 d e z2 z3 h0 n0 Z0 E_a1 F_size F_items V_bi F_sameEvents V_bf F_parents V_bp F_children V_bc F_childCounts V_bn V0 EX0 V1 EX1 V2 EX2 (hkey 1 (by decide) (by decide)).2.2 (hkey 2 (by decide) (by decide)).2.2 (hkey 3 (by decide) (by decide)).2.2 (hkey 4 (by decide) (by decide)).2.2 (hkey 5 (by decide) (by decide)).2.2 (hkey 6 (by decide) (by decide)).2.2 g_a1 g_bi g_bf g_bp g_bc g_bn g0 g1 g2 ne_a1_bi ne_a1_bf ne_a1_bp ne_a1_bc ne_a1_bn (E_a1.neArv V0 (ww hw 2 rfl)) (E_a1.neArv V1 (ww hw 2 rfl)) (E_a1.neArv V2 (ww hw 2 rfl)) ne_bi_bf ne_bi_bp ne_bi_bc ne_bi_bn (arv_ne V_bi V0 (Or.inl (by decide))) (arv_ne V_bi V1 (Or.inl (by decide))) (arv_ne V_bi V2 (Or.inl (by decide))) ne_bf_bp ne_bf_bc ne_bf_bn (arv_ne V_bf V0 (Or.inl (by decide))) (arv_ne V_bf V1 (Or.inl (by decide))) (arv_ne V_bf V2 (Or.inl (by decide))) ne_bp_bc ne_bp_bn (arv_ne V_bp V0 (Or.inl (by decide))) (arv_ne V_bp V1 (Or.inl (by decide))) (arv_ne V_bp V2 (Or.inl (by decide))) ne_bc_bn (arv_ne V_bc V0 (Or.inl (by decide))) (arv_ne V_bc V1 (Or.inl (by decide))) (arv_ne V_bc V2 (Or.inl (by decide))) (arv_ne V_bn V0 (Or.inl (by decide))) (arv_ne V_bn V1 (Or.inl (by decide))) (arv_ne V_bn V2 (Or.inl (by decide))) (fun e => (hd0 _ rfl).1 (by rw [e])) (fun e => (hd0 _ rfl).2 (by rw [e])) (fun e => hd1 _ rfl (by rw [e])) (k6.imp (·.2) (·.2))) (fun _ _ q => q) (fun _ _ _ _ _ q => q) ?_
  rintro a_ s_ o_ s_' hP ⟨v, L, ho, ⟨r0, r1, r2, r3, u0, u1, u2, u3, hv, N, K, A1, A2, A3, A4, A5, A6, A7, A8, A9, A10, A11, A12, W0, EW0, W1, EW1, W2, EW2, hrel⟩, hF⟩
  obtain ⟨rfl, rfl, rfl, hu⟩ := hrel
  have C0 : own_Bk Z s_'.heap n0 (.ref s0) (own_E0 (own_kp I F) 6) := by
    show own_Bk Z s_'.heap n0 (.ref s0) (own_E0 (own_kp I F) 7)
    rw [h7]; exact ⟨s0, q0, r3, rfl, W0, EW0, g0⟩
  have hr : u0 = 5 := by
    rcases k6 with ⟨z, p⟩ | ⟨z, p⟩
    · exact (hu.1 p.1).trans z
    · exact (hu.2 p.2).trans z
  subst hr
  have C2 : own_Bk Z s_'.heap n0 (.ref s2) (own_E2 (own_kp I F) 6) := ⟨s2, q2, u1, u2, u3, rfl, W2, EW2, g2⟩
  have C1 : own_Bk Z s_'.heap n0 (.ref s1) (own_E1 6) := ⟨s1, q1, y1, y2, y3, rfl, W1, EW1, g1⟩
  exact ⟨v, L, ho, ⟨hv, N, K.1, ⟨IL, FL, PL, .ref s0, .ref s1, .ref s2, ⟨A1, A2⟩, ⟨A3, A4⟩, ⟨A5, A6⟩, ⟨A7, A8⟩, ⟨A9, A10⟩, ⟨A11, A12⟩, ⟨hIL, hFL, hPL⟩, fun i z1 z2 => hkey i z1 (by omega), ⟨C0, C1, C2⟩, hd0, hd1⟩⟩, hF⟩
def Q7_u7 (Z : State) (a1 : Addr) (bi bf bp bc bn : Addr) (ki kf kp kc kn : ClassId) (I F : List Int32) (h0 : Heap) (n0 : Nat) (v : Option Value) (h : Heap) (L : List Loc) : Prop := v = none ∧ Fr n0 L ∧ h0.size ≤ h.size ∧ own_St Z h n0 a1 bi bf bp bc bn ki kf kp kc kn I F 7
theorem rm7_u7 (l : Launch) (Z : State) (a0 : Array Value) (hw : ∀ d ∈ tables_1, d.before a0 Z = true) (ws : List Jvm.Cond) (a1 : Addr) (bi bf bp bc bn : Addr) (ki kf kp kc kn : ClassId) (I F : List Int32) (h0 : Heap) (n0 : Nat) (Z0 : n0 ≤ h0.size) (CX : own_Cx Z n0 a1 bi bf bp bc bn kc I F) (ST : own_St Z h0 n0 a1 bi bf bp bc bn ki kf kp kc kn I F 7) :
    MetFree l mn_4 (head1 (Jvm.Cond.code mn_4 prog_23_method_4_code 8 none :: ws) ({ frames := 0, cells := 0, slots := 0, locals := 0 } : Room)) (fun a U => a = #[(.ref a1), (.int (7 : Int32))] ∧ Z.Warmed39 U.vm ∧ U.heap = h0) (fun _ _ _ _ _ => True) (fun _ U o U' => ∃ v L, o = .returned v ∧ Q7_u7 Z a1 bi bf bp bc bn ki kf kp kc kn I F h0 n0 v U'.heap L ∧ FrameEnd U o U' L ({ frames := 0, cells := 0, slots := 0, locals := 0 } : Room).cells ({ frames := 0, cells := 0, slots := 0, locals := 0 } : Room).slots) := by
  obtain ⟨IL, FL, PL, v0, v1, v2, ⟨E_a1, F_size⟩, ⟨F_items, V_bi⟩, ⟨F_sameEvents, V_bf⟩, ⟨F_parents, V_bp⟩, ⟨F_children, V_bc⟩, ⟨F_childCounts, V_bn⟩, ⟨hIL, hFL, hPL⟩, hkey, ⟨B0, B1, B2⟩, hd0, hd1⟩ := ST
  obtain ⟨⟨g_a1, g_bi, g_bf, g_bp, g_bc, g_bn⟩, ⟨ne_a1_bi, ne_a1_bf, ne_a1_bp, ne_a1_bc, ne_a1_bn, ne_bi_bf, ne_bi_bp, ne_bi_bc, ne_bi_bn, ne_bf_bp, ne_bf_bc, ne_bf_bn, ne_bp_bc, ne_bp_bn, ne_bc_bn⟩, O_bc, hfl, hk12, hk14, hk24, hk56⟩ := CX
  obtain ⟨a, b, c, h7, h1, h2, h3, h4⟩ := own_q6 (κ := own_kp I F)
  obtain ⟨d, e, h8, k3, k4, k5, k6⟩ := own_q2 (κ := own_kp I F)
  rw [h7] at B0
  rw [h8] at B2
  obtain ⟨s0, q0, x3, rfl, V0, EX0, g0⟩ := B0
  obtain ⟨s1, q1, y1, y2, y3, rfl, V1, EX1, g1⟩ : own_Bk Z h0 n0 v1 [3] := B1
  obtain ⟨s2, q2, z2, z3, rfl, V2, EX2, g2⟩ := B2
  refine MetFree.mono (rm7_7 l Z a0 hw ws a1 bi bf bp bc bn ki kf kp kc kn IL FL PL s0 s1 s2 q0 q1 q2 a b c x3 y1 y2 y3 d e z2 z3 h0 n0 Z0 E_a1 F_size F_items V_bi F_sameEvents V_bf F_parents V_bp F_children V_bc F_childCounts V_bn V0 EX0 V1 EX1 V2 EX2 (hkey 1 (by decide) (by decide)).2.2 (hkey 2 (by decide) (by decide)).2.2 (hkey 3 (by decide) (by decide)).2.2 (hkey 4 (by decide) (by decide)).2.2 (hkey 5 (by decide) (by decide)).2.2 (hkey 6 (by decide) (by decide)).2.2 g_a1 g_bi g_bf g_bp g_bc g_bn g0 g1 g2 ne_a1_bi ne_a1_bf ne_a1_bp ne_a1_bc ne_a1_bn (E_a1.neArv V0 (ww hw 2 rfl)) (E_a1.neArv V1 (ww hw 2 rfl)) (E_a1.neArv V2 (ww hw 2 rfl)) ne_bi_bf ne_bi_bp ne_bi_bc ne_bi_bn (arv_ne V_bi V0 (Or.inl (by decide))) (arv_ne V_bi V1 (Or.inl (by decide))) (arv_ne V_bi V2 (Or.inl (by decide))) ne_bf_bp ne_bf_bc ne_bf_bn (arv_ne V_bf V0 (Or.inl (by decide))) (arv_ne V_bf V1 (Or.inl (by decide))) (arv_ne V_bf V2 (Or.inl (by decide))) ne_bp_bc ne_bp_bn (arv_ne V_bp V0 (Or.inl (by decide))) (arv_ne V_bp V1 (Or.inl (by decide))) (arv_ne V_bp V2 (Or.inl (by decide))) ne_bc_bn (arv_ne V_bc V0 (Or.inl (by decide))) (arv_ne V_bc V1 (Or.inl (by decide))) (arv_ne V_bc V2 (Or.inl (by decide))) (arv_ne V_bn V0 (Or.inl (by decide))) (arv_ne V_bn V1 (Or.inl (by decide))) (arv_ne V_bn V2 (Or.inl (by decide))) (fun e => (hd0 _ rfl).1 (by rw [e])) (fun e => (hd0 _ rfl).2 (by rw [e])) (fun e => hd1 _ rfl (by rw [e])) ) (fun _ _ q => q) (fun _ _ _ _ _ q => q) ?_
  rintro a_ s_ o_ s_' hP ⟨v, L, ho, ⟨r0, r1, r2, r3, u0, u1, u2, u3, hv, N, K, A1, A2, A3, A4, A5, A6, A7, A8, A9, A10, A11, A12, W0, EW0, W1, EW1, W2, EW2, hrel⟩, hF⟩
  obtain ⟨rfl, rfl, rfl, rfl, rfl⟩ := hrel
  have C0 : own_Bk Z s_'.heap n0 (.ref s0) (own_E0 (own_kp I F) 7) := by
    show own_Bk Z s_'.heap n0 (.ref s0) (own_E0 (own_kp I F) 7)
    rw [h7]; exact ⟨s0, q0, r3, rfl, W0, EW0, g0⟩
  have C2 : own_Bk Z s_'.heap n0 (.ref s2) (own_E2 (own_kp I F) 7) := by rw [h8]; exact ⟨s2, q2, u2, u3, rfl, W2, EW2, g2⟩
  have C1 : own_Bk Z s_'.heap n0 (.ref s1) (own_E1 7) := ⟨s1, q1, y1, y2, y3, rfl, W1, EW1, g1⟩
  exact ⟨v, L, ho, ⟨hv, N, K.1, ⟨IL, FL, PL, .ref s0, .ref s1, .ref s2, ⟨A1, A2⟩, ⟨A3, A4⟩, ⟨A5, A6⟩, ⟨A7, A8⟩, ⟨A9, A10⟩, ⟨A11, A12⟩, ⟨hIL, hFL, hPL⟩, fun i z1 z2 => hkey i z1 (by omega), ⟨C0, C1, C2⟩, hd0, hd1⟩⟩, hF⟩
def Q7_U (Z : State) (a1 : Addr) (p2 : Int32) (bi bf bp bc bn : Addr) (ki kf kp kc kn : ClassId) (I F : List Int32) (K : Nat) (h0 : Heap) (n0 : Nat) (v : Option Value) (h : Heap) (L : List Loc) : Prop := v = none ∧ Fr n0 L ∧ h0.size ≤ h.size ∧ own_St Z h n0 a1 bi bf bp bc bn ki kf kp kc kn I F K
theorem rm7_U (l : Launch) (Z : State) (a0 : Array Value) (hw : ∀ d ∈ tables_1, d.before a0 Z = true) (ws : List Jvm.Cond) (a1 : Addr) (p2 : Int32) (bi bf bp bc bn : Addr) (ki kf kp kc kn : ClassId) (I F : List Int32) (K : Nat) (h0 : Heap) (n0 : Nat) (Z0 : n0 ≤ h0.size) (CX : own_Cx Z n0 a1 bi bf bp bc bn kc I F) (ST : own_St Z h0 n0 a1 bi bf bp bc bn ki kf kp kc kn I F 7) (hk : p2 = Int32.ofNat K) (h1 : 1 ≤ K) (h7 : K ≤ 7) :
    MetFree l mn_4 (head1 (Jvm.Cond.code mn_4 prog_23_method_4_code 8 none :: ws) ({ frames := 0, cells := 0, slots := 0, locals := 0 } : Room)) (fun a U => a = #[(.ref a1), (.int p2)] ∧ Z.Warmed39 U.vm ∧ U.heap = h0) (fun _ _ _ _ _ => True) (fun _ U o U' => ∃ v L, o = .returned v ∧ Q7_U Z a1 p2 bi bf bp bc bn ki kf kp kc kn I F K h0 n0 v U'.heap L ∧ FrameEnd U o U' L ({ frames := 0, cells := 0, slots := 0, locals := 0 } : Room).cells ({ frames := 0, cells := 0, slots := 0, locals := 0 } : Room).slots) := by
  subst hk
  have hc : K = 1 ∨ K = 2 ∨ K = 3 ∨ K = 4 ∨ K = 5 ∨ K = 6 ∨ K = 7 := by omega
  rcases hc with rfl | rfl | rfl | rfl | rfl | rfl | rfl
  · exact rm7_u1 l Z a0 hw ws a1 bi bf bp bc bn ki kf kp kc kn I F h0 n0 Z0 CX ST
  · exact rm7_u2 l Z a0 hw ws a1 bi bf bp bc bn ki kf kp kc kn I F h0 n0 Z0 CX ST
  · exact rm7_u3 l Z a0 hw ws a1 bi bf bp bc bn ki kf kp kc kn I F h0 n0 Z0 CX ST
  · exact rm7_u4 l Z a0 hw ws a1 bi bf bp bc bn ki kf kp kc kn I F h0 n0 Z0 CX ST
  · exact rm7_u5 l Z a0 hw ws a1 bi bf bp bc bn ki kf kp kc kn I F h0 n0 Z0 CX ST
  · exact rm7_u6 l Z a0 hw ws a1 bi bf bp bc bn ki kf kp kc kn I F h0 n0 Z0 CX ST
  · exact rm7_u7 l Z a0 hw ws a1 bi bf bp bc bn ki kf kp kc kn I F h0 n0 Z0 CX ST
theorem d1_0 : decode prog_23_method_1_code 0 = .ok (.aload_n 0, 1) := by decide +kernel
theorem d1_1 : decode prog_23_method_1_code 1 = .ok (.invokespecial 1, 3) := by decide +kernel
theorem d1_4 : decode prog_23_method_1_code 4 = .ok (.aload_n 0, 1) := by decide +kernel
theorem d1_5 : decode prog_23_method_1_code 5 = .ok (.iconst 1, 1) := by decide +kernel
theorem d1_6 : decode prog_23_method_1_code 6 = .ok (.putfield 7, 3) := by decide +kernel
theorem d1_9 : decode prog_23_method_1_code 9 = .ok (.aload_n 0, 1) := by decide +kernel
theorem d1_10 : decode prog_23_method_1_code 10 = .ok (.bipush 16, 2) := by decide +kernel
theorem d1_12 : decode prog_23_method_1_code 12 = .ok (.newarray .int, 2) := by decide +kernel
theorem d1_14 : decode prog_23_method_1_code 14 = .ok (.putfield 13, 3) := by decide +kernel
theorem d1_17 : decode prog_23_method_1_code 17 = .ok (.aload_n 0, 1) := by decide +kernel
theorem d1_18 : decode prog_23_method_1_code 18 = .ok (.bipush 16, 2) := by decide +kernel
theorem d1_20 : decode prog_23_method_1_code 20 = .ok (.newarray .boolean, 2) := by decide +kernel
theorem d1_22 : decode prog_23_method_1_code 22 = .ok (.putfield 17, 3) := by decide +kernel
theorem d1_25 : decode prog_23_method_1_code 25 = .ok (.aload_n 0, 1) := by decide +kernel
theorem d1_26 : decode prog_23_method_1_code 26 = .ok (.bipush 16, 2) := by decide +kernel
theorem d1_28 : decode prog_23_method_1_code 28 = .ok (.newarray .int, 2) := by decide +kernel
theorem d1_30 : decode prog_23_method_1_code 30 = .ok (.putfield 21, 3) := by decide +kernel
theorem d1_33 : decode prog_23_method_1_code 33 = .ok (.aload_n 0, 1) := by decide +kernel
theorem d1_34 : decode prog_23_method_1_code 34 = .ok (.bipush 16, 2) := by decide +kernel
theorem d1_36 : decode prog_23_method_1_code 36 = .ok (.anewarray 24, 3) := by decide +kernel
theorem d1_39 : decode prog_23_method_1_code 39 = .ok (.putfield 25, 3) := by decide +kernel
theorem d1_42 : decode prog_23_method_1_code 42 = .ok (.aload_n 0, 1) := by decide +kernel
theorem d1_43 : decode prog_23_method_1_code 43 = .ok (.bipush 16, 2) := by decide +kernel
theorem d1_45 : decode prog_23_method_1_code 45 = .ok (.newarray .int, 2) := by decide +kernel
theorem d1_47 : decode prog_23_method_1_code 47 = .ok (.putfield 29, 3) := by decide +kernel
theorem d1_50 : decode prog_23_method_1_code 50 = .ok (.return_, 1) := by decide +kernel
theorem ef_1 (m : MethodId) (x0 : Addr) : entryFrame m #[(.ref x0)] 1 = mkF m 0 #[.val (.ref x0)] [] := by first | (simp [entryFrame, mkF, argsToLocals, Value.category]; done) | rfl
def Q1 (Z : State) (a1 : Addr) (h0 : Heap) (n0 : Nat) (v : Option Value) (h : Heap) (L : List Loc) : Prop := ∃ (bi bf bp bc bn : Addr) (ki kf kp kc kn : ClassId), v = none ∧ Fr n0 L ∧ h0.size ≤ h.size ∧ (n0 ≤ a1 ∧ n0 ≤ bi ∧ n0 ≤ bf ∧ n0 ≤ bp ∧ n0 ≤ bc ∧ n0 ≤ bn) ∧ (a1 ≠ bi ∧ a1 ≠ bf ∧ a1 ≠ bp ∧ a1 ≠ bc ∧ a1 ≠ bn ∧ bi ≠ bf ∧ bi ≠ bp ∧ bi ≠ bc ∧ bi ≠ bn ∧ bf ≠ bp ∧ bf ≠ bc ∧ bf ≠ bn ∧ bp ≠ bc ∧ bp ≠ bn ∧ bc ≠ bn) ∧ OvrA Z kc .int "[I" ∧ ∀ I F : List Int32, own_St Z h n0 a1 bi bf bp bc bn ki kf kp kc kn I F 1
theorem rm1 (l : Launch) (Z : State) (a0 : Array Value) (hw : ∀ d ∈ tables_1, d.before a0 Z = true) (ws : List Jvm.Cond) (a1 : Addr) (h0 : Heap) (n0 : Nat) (Z0 : n0 ≤ h0.size) (E_a1 : Exa Z h0 a1 "com/example/tidemine/tidemine/PatternTrie") (g_a1 : n0 ≤ a1) (F_size : Fld Z h0 a1 "com/example/tidemine/tidemine/PatternTrie" "size" "I" (.int (0 : Int32))) (F_items : Fld Z h0 a1 "com/example/tidemine/tidemine/PatternTrie" "items" "[I" .null) (F_sameEvents : Fld Z h0 a1 "com/example/tidemine/tidemine/PatternTrie" "sameEvents" "[Z" .null) (F_parents : Fld Z h0 a1 "com/example/tidemine/tidemine/PatternTrie" "parents" "[I" .null) (F_children : Fld Z h0 a1 "com/example/tidemine/tidemine/PatternTrie" "children" "[[I" .null) (F_childCounts : Fld Z h0 a1 "com/example/tidemine/tidemine/PatternTrie" "childCounts" "[I" .null) :
    MetFree l mn_5 (head1 (Jvm.Cond.code mn_5 prog_23_method_1_code 1 none :: ws) ({ frames := 1, cells := 5, slots := 80, locals := 12 } : Room)) (fun a U => a = #[(.ref a1)] ∧ Z.Warmed39 U.vm ∧ U.heap = h0) (fun _ _ _ _ _ => True) (fun _ U o U' => ∃ v L, o = .returned v ∧ Q1 Z a1 h0 n0 v U'.heap L ∧ FrameEnd U o U' L ({ frames := 1, cells := 5, slots := 80, locals := 12 } : Room).cells ({ frames := 1, cells := 5, slots := 80, locals := 12 } : Room).slots) := by
  refine MetFree.of_bodySF (plainFor_of_name pn_2) hisR ?_
  intro p e s m args below meth c s₁ Bd hml0 hP hK
  obtain ⟨rfl, hZ, hh⟩ := hP
  have hx := Bd.exec
  have hby := Bd.bytes
  have hml : c.maxLocals = 1 := hml0
  have hown : s.vm.findClass "com/example/tidemine/tidemine/PatternTrie" = some m.cls := findClass_of_methodNamed Bd.named
  have hnm := (name_of_methodNamed Bd.named Bd.method).1
  have X0 : Stand p l e ({ frames := 1, cells := 5, slots := 80, locals := 12 } : Room) s m #[(.ref a1)] below meth c s₁ [] 0 0 := Stand.of_body Bd
  have e0 : s₁.heap = h0 := by rw [← hh, Bd.state]; rfl
  have N0 := Fr.nil n0
  have K0 := Keep.refl h0 [a1]
  have pre0 : ∀ t, Steps p.tables e below (s₁.setTop (mkF m 0 #[.val (.ref a1)] [])) t → Steps p.tables e below (s₁.setTop (entryFrame m #[(.ref a1)] 1)) t := fun t k => castTop (ef_1 m a1) k
  obtain ⟨T1, X1, e1, st1⟩ := initO X0 hx hZ hown (ww hw 7 rfl) (ww hw 8 rfl) (ww hw 9 rfl) e0 (g := (mkF m 1 #[vR a1] [iR a1])) rfl (by rw [hml]; rfl) rfl (hb hby d1_1) (by decide) (W := 0) (wz rfl) (by decide)
  obtain ⟨T2, h2, X2, e2, W2, st2⟩ := putF X1 hx hZ hown (host := "") (Or.inl (ww hw 10 rfl)) Via.refl e1 F_size E_a1 (Or.inl (ww hw 11 rfl)) (ww hw 2 rfl) (ty := .int) (by decide) rfl rfl (g := (mkF m 6 #[vR a1] [iI 1, iR a1])) rfl rfl (hb hby d1_6)
  have Fw2 := F_size.same W2
  have K2 : Keep h0 h2 [a1] := K0.wr W2 (Or.inl (List.mem_of_getElem? (i := 0) rfl))
  have N2 := Fr.snoc X2 N0 g_a1
  obtain ⟨T3, h3, k3, X3, e3, E3, A3, st3⟩ := newP X2 hx hZ (ww hw 12 rfl) e2 (g := (mkF m 12 #[vR a1] [iI 16, iR a1])) rfl (hb hby d1_12) rfl (by decide) (cap := 16) (by decide) (by decide) (by decide) (by decide)
  obtain ⟨b3, g3⟩ : ∃ z, z = h2.size := ⟨_, rfl⟩
  rw [← g3] at A3 st3
  have fk4 := (E_a1.wr W2)
  have ne_a1_b3 : a1 ≠ b3 := Nat.ne_of_lt (Nat.lt_of_lt_of_le fk4.lt (Nat.le_of_eq g3.symm))
  have sz_b3 : h0.size ≤ b3 := Nat.le_trans K2.1 (Nat.le_of_eq g3.symm)
  have g_b3 : n0 ≤ b3 := Nat.le_trans Z0 sz_b3
  have K3 : Keep h0 h3 [a1] := K2.ext E3
  have V3 : Arv Z h3 b3 k3 .int (16 : Int32) [(.int (0 : Int32)), (.int (0 : Int32)), (.int (0 : Int32)), (.int (0 : Int32)), (.int (0 : Int32)), (.int (0 : Int32)), (.int (0 : Int32)), (.int (0 : Int32)), (.int (0 : Int32)), (.int (0 : Int32)), (.int (0 : Int32)), (.int (0 : Int32)), (.int (0 : Int32)), (.int (0 : Int32)), (.int (0 : Int32)), (.int (0 : Int32))] (.int (0 : Int32)) := (Arv.new A3 (by decide)).pad (pad_rep [] (.int (0 : Int32)) 16)
  have fk5 := ((F_items.other W2 (Or.inr (slot_ne (Or.inl (ww hw 14 rfl)) (Or.inl (ww hw 11 rfl)) (by decide) (t := (.array .int)) (t' := .int) (by decide) (by decide)))).ext E3)
  have fk6 := (fk4.ext E3)
  obtain ⟨T7, h7, X7, e7, W7, st7⟩ := putF X3 hx hZ hown (host := "") (Or.inl (ww hw 13 rfl)) Via.refl e3 fk5 fk6 (Or.inl (ww hw 14 rfl)) (ww hw 2 rfl) (ty := (.array .int)) (by decide) rfl rfl (g := (mkF m 14 #[vR a1] [iR b3, iR a1])) rfl rfl (hb hby d1_14)
  have Fw7 := fk5.same W7
  have K7 : Keep h0 h7 [a1] := K3.wr W7 (Or.inl (List.mem_of_getElem? (i := 0) rfl))
  have N7 := Fr.snoc X7 N2 g_a1
  obtain ⟨T8, h8, k8, X8, e8, E8, A8, st8⟩ := newP X7 hx hZ (ww hw 15 rfl) e7 (g := (mkF m 20 #[vR a1] [iI 16, iR a1])) rfl (hb hby d1_20) rfl (by decide) (cap := 16) (by decide) (by decide) (by decide) (by decide)
  obtain ⟨b8, g8⟩ : ∃ z, z = h7.size := ⟨_, rfl⟩
  rw [← g8] at A8 st8
  have fk9 := (fk6.wr W7)
  have ne_a1_b8 : a1 ≠ b8 := Nat.ne_of_lt (Nat.lt_of_lt_of_le fk9.lt (Nat.le_of_eq g8.symm))
  have fk10 := (V3.other W7 (Ne.symm ne_a1_b3))
  have ne_b3_b8 : b3 ≠ b8 := Nat.ne_of_lt (Nat.lt_of_lt_of_le fk10.lt (Nat.le_of_eq g8.symm))
  have sz_b8 : h0.size ≤ b8 := Nat.le_trans K7.1 (Nat.le_of_eq g8.symm)
  have g_b8 : n0 ≤ b8 := Nat.le_trans Z0 sz_b8
  have K8 : Keep h0 h8 [a1] := K7.ext E8
  have V8 : Arv Z h8 b8 k8 .boolean (16 : Int32) [(.int (0 : Int32)), (.int (0 : Int32)), (.int (0 : Int32)), (.int (0 : Int32)), (.int (0 : Int32)), (.int (0 : Int32)), (.int (0 : Int32)), (.int (0 : Int32)), (.int (0 : Int32)), (.int (0 : Int32)), (.int (0 : Int32)), (.int (0 : Int32)), (.int (0 : Int32)), (.int (0 : Int32)), (.int (0 : Int32)), (.int (0 : Int32))] (.int (0 : Int32)) := (Arv.new A8 (by decide)).pad (pad_rep [] (.int (0 : Int32)) 16)
  have fk11 := ((((F_sameEvents.other W2 (Or.inr (slot_ne (Or.inl (ww hw 17 rfl)) (Or.inl (ww hw 11 rfl)) (by decide) (t := (.array .boolean)) (t' := .int) (by decide) (by decide)))).ext E3).other W7 (Or.inr (slot_ne (Or.inl (ww hw 17 rfl)) (Or.inl (ww hw 14 rfl)) (by decide) (t := (.array .boolean)) (t' := (.array .int)) (by decide) (by decide)))).ext E8)
  have fk12 := (fk9.ext E8)
  obtain ⟨T13, h13, X13, e13, W13, st13⟩ := putF X8 hx hZ hown (host := "") (Or.inl (ww hw 16 rfl)) Via.refl e8 fk11 fk12 (Or.inl (ww hw 17 rfl)) (ww hw 2 rfl) (ty := (.array .boolean)) (by decide) rfl rfl (g := (mkF m 22 #[vR a1] [iR b8, iR a1])) rfl rfl (hb hby d1_22)
  have Fw13 := fk11.same W13
  have K13 : Keep h0 h13 [a1] := K8.wr W13 (Or.inl (List.mem_of_getElem? (i := 0) rfl))
  have N13 := Fr.snoc X13 N7 g_a1
  obtain ⟨T14, h14, k14, X14, e14, E14, A14, st14⟩ := newP X13 hx hZ (ww hw 12 rfl) e13 (g := (mkF m 28 #[vR a1] [iI 16, iR a1])) rfl (hb hby d1_28) rfl (by decide) (cap := 16) (by decide) (by decide) (by decide) (by decide)
  obtain ⟨b14, g14⟩ : ∃ z, z = h13.size := ⟨_, rfl⟩
  rw [← g14] at A14 st14
  have fk15 := (fk12.wr W13)
  have ne_a1_b14 : a1 ≠ b14 := Nat.ne_of_lt (Nat.lt_of_lt_of_le fk15.lt (Nat.le_of_eq g14.symm))
  have fk16 := ((fk10.ext E8).other W13 (Ne.symm ne_a1_b3))
  have ne_b3_b14 : b3 ≠ b14 := Nat.ne_of_lt (Nat.lt_of_lt_of_le fk16.lt (Nat.le_of_eq g14.symm))
  have fk17 := (V8.other W13 (Ne.symm ne_a1_b8))
  have ne_b8_b14 : b8 ≠ b14 := Nat.ne_of_lt (Nat.lt_of_lt_of_le fk17.lt (Nat.le_of_eq g14.symm))
  have sz_b14 : h0.size ≤ b14 := Nat.le_trans K13.1 (Nat.le_of_eq g14.symm)
  have g_b14 : n0 ≤ b14 := Nat.le_trans Z0 sz_b14
  have K14 : Keep h0 h14 [a1] := K13.ext E14
  have V14 : Arv Z h14 b14 k14 .int (16 : Int32) [(.int (0 : Int32)), (.int (0 : Int32)), (.int (0 : Int32)), (.int (0 : Int32)), (.int (0 : Int32)), (.int (0 : Int32)), (.int (0 : Int32)), (.int (0 : Int32)), (.int (0 : Int32)), (.int (0 : Int32)), (.int (0 : Int32)), (.int (0 : Int32)), (.int (0 : Int32)), (.int (0 : Int32)), (.int (0 : Int32)), (.int (0 : Int32))] (.int (0 : Int32)) := (Arv.new A14 (by decide)).pad (pad_rep [] (.int (0 : Int32)) 16)
  have fk18 := ((((((F_parents.other W2 (Or.inr (slot_ne (Or.inl (ww hw 19 rfl)) (Or.inl (ww hw 11 rfl)) (by decide) (t := (.array .int)) (t' := .int) (by decide) (by decide)))).ext E3).other W7 (Or.inr (slot_ne (Or.inl (ww hw 19 rfl)) (Or.inl (ww hw 14 rfl)) (by decide) (t := (.array .int)) (t' := (.array .int)) (by decide) (by decide)))).ext E8).other W13 (Or.inr (slot_ne (Or.inl (ww hw 19 rfl)) (Or.inl (ww hw 17 rfl)) (by decide) (t := (.array .int)) (t' := (.array .boolean)) (by decide) (by decide)))).ext E14)
  have fk19 := (fk15.ext E14)
  obtain ⟨T20, h20, X20, e20, W20, st20⟩ := putF X14 hx hZ hown (host := "") (Or.inl (ww hw 18 rfl)) Via.refl e14 fk18 fk19 (Or.inl (ww hw 19 rfl)) (ww hw 2 rfl) (ty := (.array .int)) (by decide) rfl rfl (g := (mkF m 30 #[vR a1] [iR b14, iR a1])) rfl rfl (hb hby d1_30)
  have Fw20 := fk18.same W20
  have K20 : Keep h0 h20 [a1] := K14.wr W20 (Or.inl (List.mem_of_getElem? (i := 0) rfl))
  have N20 := Fr.snoc X20 N13 g_a1
  obtain ⟨T21, h21, k21, X21, e21, E21, A21, B21, O21, st21⟩ := newRA X20 hx hZ hown (C := "[I") (ty := .int) rfl (ww hw 20 rfl) (ww hw 21 rfl) e20 (g := (mkF m 36 #[vR a1] [iI 16, iR a1])) rfl (hb hby d1_36) rfl (by decide) (cap := 16) (by decide) (by decide) (by decide) (by decide) (ad := "[[I") rfl
  obtain ⟨b21, g21⟩ : ∃ z, z = h20.size := ⟨_, rfl⟩
  rw [← g21] at A21 B21 st21
  have fk22 := (fk19.wr W20)
  have ne_a1_b21 : a1 ≠ b21 := Nat.ne_of_lt (Nat.lt_of_lt_of_le fk22.lt (Nat.le_of_eq g21.symm))
  have fk23 := ((fk16.ext E14).other W20 (Ne.symm ne_a1_b3))
  have ne_b3_b21 : b3 ≠ b21 := Nat.ne_of_lt (Nat.lt_of_lt_of_le fk23.lt (Nat.le_of_eq g21.symm))
  have fk24 := ((fk17.ext E14).other W20 (Ne.symm ne_a1_b8))
  have ne_b8_b21 : b8 ≠ b21 := Nat.ne_of_lt (Nat.lt_of_lt_of_le fk24.lt (Nat.le_of_eq g21.symm))
  have fk25 := (V14.other W20 (Ne.symm ne_a1_b14))
  have ne_b14_b21 : b14 ≠ b21 := Nat.ne_of_lt (Nat.lt_of_lt_of_le fk25.lt (Nat.le_of_eq g21.symm))
  have sz_b21 : h0.size ≤ b21 := Nat.le_trans K20.1 (Nat.le_of_eq g21.symm)
  have g_b21 : n0 ≤ b21 := Nat.le_trans Z0 sz_b21
  have K21 : Keep h0 h21 [a1] := K20.ext E21
  have V21 : Arv Z h21 b21 k21 (.array .int) (16 : Int32) [.null, .null, .null, .null, .null, .null, .null, .null, .null, .null, .null, .null, .null, .null, .null, .null] .null := (Arv.new A21 (by decide)).pad (pad_rep [] .null 16)
  have fk26 := ((((((((F_children.other W2 (Or.inr (slot_ne (Or.inl (ww hw 23 rfl)) (Or.inl (ww hw 11 rfl)) (by decide) (t := (.array (.array .int))) (t' := .int) (by decide) (by decide)))).ext E3).other W7 (Or.inr (slot_ne (Or.inl (ww hw 23 rfl)) (Or.inl (ww hw 14 rfl)) (by decide) (t := (.array (.array .int))) (t' := (.array .int)) (by decide) (by decide)))).ext E8).other W13 (Or.inr (slot_ne (Or.inl (ww hw 23 rfl)) (Or.inl (ww hw 17 rfl)) (by decide) (t := (.array (.array .int))) (t' := (.array .boolean)) (by decide) (by decide)))).ext E14).other W20 (Or.inr (slot_ne (Or.inl (ww hw 23 rfl)) (Or.inl (ww hw 19 rfl)) (by decide) (t := (.array (.array .int))) (t' := (.array .int)) (by decide) (by decide)))).ext E21)
  have fk27 := (fk22.ext E21)
  obtain ⟨T28, h28, X28, e28, W28, st28⟩ := putF X21 hx hZ hown (host := "") (Or.inl (ww hw 22 rfl)) Via.refl e21 fk26 fk27 (Or.inl (ww hw 23 rfl)) (ww hw 2 rfl) (ty := (.array (.array .int))) (by decide) rfl rfl (g := (mkF m 39 #[vR a1] [iR b21, iR a1])) rfl rfl (hb hby d1_39)
  have Fw28 := fk26.same W28
  have K28 : Keep h0 h28 [a1] := K21.wr W28 (Or.inl (List.mem_of_getElem? (i := 0) rfl))
  have N28 := Fr.snoc X28 N20 g_a1
  obtain ⟨T29, h29, k29, X29, e29, E29, A29, st29⟩ := newP X28 hx hZ (ww hw 12 rfl) e28 (g := (mkF m 45 #[vR a1] [iI 16, iR a1])) rfl (hb hby d1_45) rfl (by decide) (cap := 16) (by decide) (by decide) (by decide) (by decide)
  obtain ⟨b29, g29⟩ : ∃ z, z = h28.size := ⟨_, rfl⟩
  rw [← g29] at A29 st29
  have fk30 := (fk27.wr W28)
  have ne_a1_b29 : a1 ≠ b29 := Nat.ne_of_lt (Nat.lt_of_lt_of_le fk30.lt (Nat.le_of_eq g29.symm))
  have fk31 := ((fk23.ext E21).other W28 (Ne.symm ne_a1_b3))
  have ne_b3_b29 : b3 ≠ b29 := Nat.ne_of_lt (Nat.lt_of_lt_of_le fk31.lt (Nat.le_of_eq g29.symm))
  have fk32 := ((fk24.ext E21).other W28 (Ne.symm ne_a1_b8))
  have ne_b8_b29 : b8 ≠ b29 := Nat.ne_of_lt (Nat.lt_of_lt_of_le fk32.lt (Nat.le_of_eq g29.symm))
  have fk33 := ((fk25.ext E21).other W28 (Ne.symm ne_a1_b14))
  have ne_b14_b29 : b14 ≠ b29 := Nat.ne_of_lt (Nat.lt_of_lt_of_le fk33.lt (Nat.le_of_eq g29.symm))
  have fk34 := (B21.wr W28)
  have ne_b21_b29 : b21 ≠ b29 := Nat.ne_of_lt (Nat.lt_of_lt_of_le fk34.lt (Nat.le_of_eq g29.symm))
  have sz_b29 : h0.size ≤ b29 := Nat.le_trans K28.1 (Nat.le_of_eq g29.symm)
  have g_b29 : n0 ≤ b29 := Nat.le_trans Z0 sz_b29
  have K29 : Keep h0 h29 [a1] := K28.ext E29
  have V29 : Arv Z h29 b29 k29 .int (16 : Int32) [(.int (0 : Int32)), (.int (0 : Int32)), (.int (0 : Int32)), (.int (0 : Int32)), (.int (0 : Int32)), (.int (0 : Int32)), (.int (0 : Int32)), (.int (0 : Int32)), (.int (0 : Int32)), (.int (0 : Int32)), (.int (0 : Int32)), (.int (0 : Int32)), (.int (0 : Int32)), (.int (0 : Int32)), (.int (0 : Int32)), (.int (0 : Int32))] (.int (0 : Int32)) := (Arv.new A29 (by decide)).pad (pad_rep [] (.int (0 : Int32)) 16)
  have fk35 := ((((((((((F_childCounts.other W2 (Or.inr (slot_ne (Or.inl (ww hw 25 rfl)) (Or.inl (ww hw 11 rfl)) (by decide) (t := (.array .int)) (t' := .int) (by decide) (by decide)))).ext E3).other W7 (Or.inr (slot_ne (Or.inl (ww hw 25 rfl)) (Or.inl (ww hw 14 rfl)) (by decide) (t := (.array .int)) (t' := (.array .int)) (by decide) (by decide)))).ext E8).other W13 (Or.inr (slot_ne (Or.inl (ww hw 25 rfl)) (Or.inl (ww hw 17 rfl)) (by decide) (t := (.array .int)) (t' := (.array .boolean)) (by decide) (by decide)))).ext E14).other W20 (Or.inr (slot_ne (Or.inl (ww hw 25 rfl)) (Or.inl (ww hw 19 rfl)) (by decide) (t := (.array .int)) (t' := (.array .int)) (by decide) (by decide)))).ext E21).other W28 (Or.inr (slot_ne (Or.inl (ww hw 25 rfl)) (Or.inl (ww hw 23 rfl)) (by decide) (t := (.array .int)) (t' := (.array (.array .int))) (by decide) (by decide)))).ext E29)
  have fk36 := (fk30.ext E29)
  obtain ⟨T37, h37, X37, e37, W37, st37⟩ := putF X29 hx hZ hown (host := "") (Or.inl (ww hw 24 rfl)) Via.refl e29 fk35 fk36 (Or.inl (ww hw 25 rfl)) (ww hw 2 rfl) (ty := (.array .int)) (by decide) rfl rfl (g := (mkF m 47 #[vR a1] [iR b29, iR a1])) rfl rfl (hb hby d1_47)
  have Fw37 := fk35.same W37
  have K37 : Keep h0 h37 [a1] := K29.wr W37 (Or.inl (List.mem_of_getElem? (i := 0) rfl))
  have N37 := Fr.snoc X37 N28 g_a1
  obtain ⟨fs, hr, hrun, hended, hW, hsame⟩ := X37.leave (v := none) (fun _ => rfl)
  have fk38 := (fk36.wr W37)
  have fk39 := ((((((((((Fw2.ext E3).other W7 (Or.inr (slot_ne (Or.inl (ww hw 11 rfl)) (Or.inl (ww hw 14 rfl)) (by decide) (t := .int) (t' := (.array .int)) (by decide) (by decide)))).ext E8).other W13 (Or.inr (slot_ne (Or.inl (ww hw 11 rfl)) (Or.inl (ww hw 17 rfl)) (by decide) (t := .int) (t' := (.array .boolean)) (by decide) (by decide)))).ext E14).other W20 (Or.inr (slot_ne (Or.inl (ww hw 11 rfl)) (Or.inl (ww hw 19 rfl)) (by decide) (t := .int) (t' := (.array .int)) (by decide) (by decide)))).ext E21).other W28 (Or.inr (slot_ne (Or.inl (ww hw 11 rfl)) (Or.inl (ww hw 23 rfl)) (by decide) (t := .int) (t' := (.array (.array .int))) (by decide) (by decide)))).ext E29).other W37 (Or.inr (slot_ne (Or.inl (ww hw 11 rfl)) (Or.inl (ww hw 25 rfl)) (by decide) (t := .int) (t' := (.array .int)) (by decide) (by decide))))
  have fk40 := ((((((((Fw7.ext E8).other W13 (Or.inr (slot_ne (Or.inl (ww hw 14 rfl)) (Or.inl (ww hw 17 rfl)) (by decide) (t := (.array .int)) (t' := (.array .boolean)) (by decide) (by decide)))).ext E14).other W20 (Or.inr (slot_ne (Or.inl (ww hw 14 rfl)) (Or.inl (ww hw 19 rfl)) (by decide) (t := (.array .int)) (t' := (.array .int)) (by decide) (by decide)))).ext E21).other W28 (Or.inr (slot_ne (Or.inl (ww hw 14 rfl)) (Or.inl (ww hw 23 rfl)) (by decide) (t := (.array .int)) (t' := (.array (.array .int))) (by decide) (by decide)))).ext E29).other W37 (Or.inr (slot_ne (Or.inl (ww hw 14 rfl)) (Or.inl (ww hw 25 rfl)) (by decide) (t := (.array .int)) (t' := (.array .int)) (by decide) (by decide))))
  have fk41 := ((fk31.ext E29).other W37 (Ne.symm ne_a1_b3))
  have fk42 := ((((((Fw13.ext E14).other W20 (Or.inr (slot_ne (Or.inl (ww hw 17 rfl)) (Or.inl (ww hw 19 rfl)) (by decide) (t := (.array .boolean)) (t' := (.array .int)) (by decide) (by decide)))).ext E21).other W28 (Or.inr (slot_ne (Or.inl (ww hw 17 rfl)) (Or.inl (ww hw 23 rfl)) (by decide) (t := (.array .boolean)) (t' := (.array (.array .int))) (by decide) (by decide)))).ext E29).other W37 (Or.inr (slot_ne (Or.inl (ww hw 17 rfl)) (Or.inl (ww hw 25 rfl)) (by decide) (t := (.array .boolean)) (t' := (.array .int)) (by decide) (by decide))))
  have fk43 := ((fk32.ext E29).other W37 (Ne.symm ne_a1_b8))
  have fk44 := ((((Fw20.ext E21).other W28 (Or.inr (slot_ne (Or.inl (ww hw 19 rfl)) (Or.inl (ww hw 23 rfl)) (by decide) (t := (.array .int)) (t' := (.array (.array .int))) (by decide) (by decide)))).ext E29).other W37 (Or.inr (slot_ne (Or.inl (ww hw 19 rfl)) (Or.inl (ww hw 25 rfl)) (by decide) (t := (.array .int)) (t' := (.array .int)) (by decide) (by decide))))
  have fk45 := ((fk33.ext E29).other W37 (Ne.symm ne_a1_b14))
  have fk46 := ((Fw28.ext E29).other W37 (Or.inr (slot_ne (Or.inl (ww hw 23 rfl)) (Or.inl (ww hw 25 rfl)) (by decide) (t := (.array (.array .int))) (t' := (.array .int)) (by decide) (by decide))))
  have fk47 := (((V21.other W28 (Ne.symm ne_a1_b21)).ext E29).other W37 (Ne.symm ne_a1_b21))
  have fk48 := (V29.other W37 (Ne.symm ne_a1_b29))
  refine ⟨_, _, pre0 _ ?_, hrun, hended, _, _, rfl, ?_, ⟨_, rfl⟩, hW, hsame.mono (by decide) (by decide)⟩
  · refine XS.aloadN X0.here hx rfl (hb hby d1_0) rfl rfl ?_
    refine st1 _ ?_
    refine XS.aloadN X1.here hx rfl (hb hby d1_4) rfl rfl ?_
    refine XS.iconst X1.here hx rfl (hb hby d1_5) ?_
    refine st2 _ ?_
    refine XS.aloadN X2.here hx rfl (hb hby d1_9) rfl rfl ?_
    refine XS.bipush X2.here hx rfl (hb hby d1_10) ?_
    refine st3 _ ?_
    refine st7 _ ?_
    refine XS.aloadN X7.here hx rfl (hb hby d1_17) rfl rfl ?_
    refine XS.bipush X7.here hx rfl (hb hby d1_18) ?_
    refine st8 _ ?_
    refine st13 _ ?_
    refine XS.aloadN X13.here hx rfl (hb hby d1_25) rfl rfl ?_
    refine XS.bipush X13.here hx rfl (hb hby d1_26) ?_
    refine st14 _ ?_
    refine st20 _ ?_
    refine XS.aloadN X20.here hx rfl (hb hby d1_33) rfl rfl ?_
    refine XS.bipush X20.here hx rfl (hb hby d1_34) ?_
    refine st21 _ ?_
    refine st28 _ ?_
    refine XS.aloadN X28.here hx rfl (hb hby d1_42) rfl rfl ?_
    refine XS.bipush X28.here hx rfl (hb hby d1_43) ?_
    refine st29 _ ?_
    refine st37 _ ?_
    show Steps _ _ _ (T37.setTop (mkF m 50 #[vR a1] [])) _
    exact X37.returnOut hx Bd.returns (hb hby d1_50) hr
  · show Q1 Z a1 h0 n0 _ T37.heap _
    rw [e37]
    exact ⟨b3, b8, b14, b21, b29, k3, k8, k14, k21, k29, rfl, N37, K37.1, ⟨g_a1, g_b3, g_b8, g_b14, g_b21, g_b29⟩, ⟨ne_a1_b3, ne_a1_b8, ne_a1_b14, ne_a1_b21, ne_a1_b29, ne_b3_b8, ne_b3_b14, ne_b3_b21, ne_b3_b29, ne_b8_b14, ne_b8_b21, ne_b8_b29, ne_b14_b21, ne_b14_b29, ne_b21_b29⟩, O21, fun I F => ⟨[0, 0, 0, 0, 0, 0, 0, 0, 0, 0, 0, 0, 0, 0, 0, 0], [0, 0, 0, 0, 0, 0, 0, 0, 0, 0, 0, 0, 0, 0, 0, 0], [0, 0, 0, 0, 0, 0, 0, 0, 0, 0, 0, 0, 0, 0, 0, 0], .null, .null, .null, ⟨fk38, fk39⟩, ⟨fk40, fk41⟩, ⟨fk42, fk43⟩, ⟨fk44, fk45⟩, ⟨fk46, fk47⟩, ⟨Fw37, fk48⟩, ⟨rfl, rfl, rfl⟩, (fun i h1 h2 => absurd h2 (by omega)), ⟨Or.inl rfl, Or.inl rfl, Or.inl rfl⟩, (fun s z => nomatch z), (fun s z => nomatch z)⟩⟩
theorem own_StE {Z : State} {h : Heap} {m0 : Nat} {a1 bi bf bp bc bn : Addr} {ki kf kp kc kn : ClassId} {I F : List Int32} {n : Nat} (S : own_St Z h m0 a1 bi bf bp bc bn ki kf kp kc kn I F n) : Exa Z h a1 "com/example/tidemine/tidemine/PatternTrie" ∧ Fld Z h a1 "com/example/tidemine/tidemine/PatternTrie" "size" "I" (.int (Int32.ofNat n)) := by
  obtain ⟨_, _, _, _, _, _, h1, _⟩ := S
  exact h1
theorem d8_0 : decode prog_23_method_2_code 0 = .ok (.aload_n 0, 1) := by decide +kernel
theorem d8_1 : decode prog_23_method_2_code 1 = .ok (.getfield 7, 3) := by decide +kernel
theorem d8_4 : decode prog_23_method_2_code 4 = .ok (.ireturn, 1) := by decide +kernel
theorem ef_8 (m : MethodId) (x0 : Addr) : entryFrame m #[(.ref x0)] 1 = mkF m 0 #[.val (.ref x0)] [] := by first | (simp [entryFrame, mkF, argsToLocals, Value.category]; done) | rfl
def Q8 (Z : State) (a1 : Addr) (n_ : Int32) (h0 : Heap) (v : Option Value) (h : Heap) (L : List Loc) : Prop := v = some (.int n_) ∧ L = [] ∧ h = h0
theorem rm8 (l : Launch) (Z : State) (a0 : Array Value) (hw : ∀ d ∈ tables_1, d.before a0 Z = true) (ws : List Jvm.Cond) (a1 : Addr) (n_ : Int32) (h0 : Heap) (F_size : Fld Z h0 a1 "com/example/tidemine/tidemine/PatternTrie" "size" "I" (.int n_)) :
    MetFree l mn_6 (head1 (Jvm.Cond.code mn_6 prog_23_method_2_code 1 (some .int) :: ws) ({ frames := 0, cells := 0, slots := 0, locals := 0 } : Room)) (fun a U => a = #[(.ref a1)] ∧ Z.Warmed39 U.vm ∧ U.heap = h0) (fun _ _ _ _ _ => True) (fun _ U o U' => ∃ v L, o = .returned v ∧ Q8 Z a1 n_ h0 v U'.heap L ∧ FrameEnd U o U' L ({ frames := 0, cells := 0, slots := 0, locals := 0 } : Room).cells ({ frames := 0, cells := 0, slots := 0, locals := 0 } : Room).slots) := by
  refine MetFree.of_bodySF (plainFor_of_name pn_2) hisR ?_
  intro p e s m args below meth c s₁ Bd hml0 hP hK
  obtain ⟨rfl, hZ, hh⟩ := hP
  have hx := Bd.exec
  have hby := Bd.bytes
  have hml : c.maxLocals = 1 := hml0
  have hown : s.vm.findClass "com/example/tidemine/tidemine/PatternTrie" = some m.cls := findClass_of_methodNamed Bd.named
  have hnm := (name_of_methodNamed Bd.named Bd.method).1
  have X0 : Stand p l e ({ frames := 0, cells := 0, slots := 0, locals := 0 } : Room) s m #[(.ref a1)] below meth c s₁ [] 0 0 := Stand.of_body Bd
  have e0 : s₁.heap = h0 := by rw [← hh, Bd.state]; rfl
  have pre0 : ∀ t, Steps p.tables e below (s₁.setTop (mkF m 0 #[.val (.ref a1)] [])) t → Steps p.tables e below (s₁.setTop (entryFrame m #[(.ref a1)] 1)) t := fun t k => castTop (ef_8 m a1) k
  obtain ⟨T1, X1, e1, st1⟩ := gF X0 hx hZ hown (ww hw 10 rfl) e0 F_size (g := (mkF m 1 #[vR a1] [iR a1])) rfl rfl (hb hby d8_1)
  obtain ⟨fs, hr, hrun, hended, hW, hsame⟩ := X1.leave (v := some (.int n_)) (fun h => by rw [Bd.returns] at h; cases h)
  refine ⟨_, _, pre0 _ ?_, hrun, hended, _, _, rfl, ?_, ⟨_, rfl⟩, hW, hsame.mono (by decide) (by decide)⟩
  · refine XS.aloadN X0.here hx rfl (hb hby d8_0) rfl rfl ?_
    refine st1 _ ?_
    show Steps _ _ _ (T1.setTop (mkF m 4 #[vR a1] [iI n_])) _
    exact retI X1 hx Bd.returns (hb hby d8_4) hr
  · show Q8 Z a1 n_ h0 _ T1.heap _
    rw [e1]
    exact ⟨rfl, rfl, rfl⟩
theorem d3_0 : decode method_3_code 0 = .ok (.aload_n 0, 1) := by decide +kernel
theorem d3_1 : decode method_3_code 1 = .ok (.iconst 0, 1) := by decide +kernel
theorem d3_2 : decode method_3_code 2 = .ok (.iload_n 1, 1) := by decide +kernel
theorem d3_3 : decode method_3_code 3 = .ok (.iload 8, 2) := by decide +kernel
theorem d3_5 : decode method_3_code 5 = .ok (.invokevirtual 25, 3) := by decide +kernel
theorem d3_8 : decode method_3_code 8 = .ok (.istore 12, 2) := by decide +kernel
theorem d3_10 : decode method_3_code 10 = .ok (.aload_n 0, 1) := by decide +kernel
theorem d3_11 : decode method_3_code 11 = .ok (.iconst 0, 1) := by decide +kernel
theorem d3_12 : decode method_3_code 12 = .ok (.iload_n 2, 1) := by decide +kernel
theorem d3_13 : decode method_3_code 13 = .ok (.iload 8, 2) := by decide +kernel
theorem d3_15 : decode method_3_code 15 = .ok (.ifCond .ne 7, 3) := by decide +kernel
theorem d3_18 : decode method_3_code 18 = .ok (.iconst 1, 1) := by decide +kernel
theorem d3_19 : decode method_3_code 19 = .ok (.goto 4, 3) := by decide +kernel
theorem d3_22 : decode method_3_code 22 = .ok (.iconst 0, 1) := by decide +kernel
theorem d3_23 : decode method_3_code 23 = .ok (.invokevirtual 25, 3) := by decide +kernel
theorem d3_26 : decode method_3_code 26 = .ok (.istore 13, 2) := by decide +kernel
theorem d3_28 : decode method_3_code 28 = .ok (.aload_n 0, 1) := by decide +kernel
theorem d3_29 : decode method_3_code 29 = .ok (.iconst 1, 1) := by decide +kernel
theorem d3_30 : decode method_3_code 30 = .ok (.iload_n 3, 1) := by decide +kernel
theorem d3_31 : decode method_3_code 31 = .ok (.iload 9, 2) := by decide +kernel
theorem d3_33 : decode method_3_code 33 = .ok (.invokevirtual 25, 3) := by decide +kernel
theorem d3_36 : decode method_3_code 36 = .ok (.istore 14, 2) := by decide +kernel
theorem d3_38 : decode method_3_code 38 = .ok (.aload_n 0, 1) := by decide +kernel
theorem d3_39 : decode method_3_code 39 = .ok (.iconst 0, 1) := by decide +kernel
theorem d3_40 : decode method_3_code 40 = .ok (.iload 4, 2) := by decide +kernel
theorem d3_42 : decode method_3_code 42 = .ok (.iload 5, 2) := by decide +kernel
theorem d3_44 : decode method_3_code 44 = .ok (.invokevirtual 25, 3) := by decide +kernel
theorem d3_47 : decode method_3_code 47 = .ok (.istore 15, 2) := by decide +kernel
theorem d3_49 : decode method_3_code 49 = .ok (.aload_n 0, 1) := by decide +kernel
theorem d3_50 : decode method_3_code 50 = .ok (.iconst 2, 1) := by decide +kernel
theorem d3_51 : decode method_3_code 51 = .ok (.iload 6, 2) := by decide +kernel
theorem d3_53 : decode method_3_code 53 = .ok (.iload 10, 2) := by decide +kernel
theorem d3_55 : decode method_3_code 55 = .ok (.invokevirtual 25, 3) := by decide +kernel
theorem d3_58 : decode method_3_code 58 = .ok (.istore 16, 2) := by decide +kernel
theorem d3_60 : decode method_3_code 60 = .ok (.aload_n 0, 1) := by decide +kernel
theorem d3_61 : decode method_3_code 61 = .ok (.iconst 2, 1) := by decide +kernel
theorem d3_62 : decode method_3_code 62 = .ok (.iload 7, 2) := by decide +kernel
theorem d3_64 : decode method_3_code 64 = .ok (.iload 11, 2) := by decide +kernel
theorem d3_66 : decode method_3_code 66 = .ok (.invokevirtual 25, 3) := by decide +kernel
theorem d3_69 : decode method_3_code 69 = .ok (.istore 17, 2) := by decide +kernel
theorem d3_71 : decode method_3_code 71 = .ok (.iload 12, 2) := by decide +kernel
theorem d3_73 : decode method_3_code 73 = .ok (.iconst 1, 1) := by decide +kernel
theorem d3_74 : decode method_3_code 74 = .ok (.if_icmp .ne 38, 3) := by decide +kernel
theorem d3_77 : decode method_3_code 77 = .ok (.iload 13, 2) := by decide +kernel
theorem d3_79 : decode method_3_code 79 = .ok (.iconst 2, 1) := by decide +kernel
theorem d3_80 : decode method_3_code 80 = .ok (.if_icmp .ne 32, 3) := by decide +kernel
theorem d3_83 : decode method_3_code 83 = .ok (.iload 14, 2) := by decide +kernel
theorem d3_85 : decode method_3_code 85 = .ok (.iconst 3, 1) := by decide +kernel
theorem d3_86 : decode method_3_code 86 = .ok (.if_icmp .ne 26, 3) := by decide +kernel
theorem d3_89 : decode method_3_code 89 = .ok (.iload 15, 2) := by decide +kernel
theorem d3_91 : decode method_3_code 91 = .ok (.iconst 4, 1) := by decide +kernel
theorem d3_92 : decode method_3_code 92 = .ok (.if_icmp .ne 20, 3) := by decide +kernel
theorem d3_95 : decode method_3_code 95 = .ok (.iload 16, 2) := by decide +kernel
theorem d3_97 : decode method_3_code 97 = .ok (.iconst 5, 1) := by decide +kernel
theorem d3_98 : decode method_3_code 98 = .ok (.if_icmp .ne 14, 3) := by decide +kernel
theorem d3_101 : decode method_3_code 101 = .ok (.iload 17, 2) := by decide +kernel
theorem d3_103 : decode method_3_code 103 = .ok (.bipush 6, 2) := by decide +kernel
theorem d3_105 : decode method_3_code 105 = .ok (.if_icmp .ne 7, 3) := by decide +kernel
theorem d3_108 : decode method_3_code 108 = .ok (.iconst 1, 1) := by decide +kernel
theorem d3_109 : decode method_3_code 109 = .ok (.goto 4, 3) := by decide +kernel
theorem d3_113 : decode method_3_code 113 = .ok (.ireturn, 1) := by decide +kernel
theorem pn_3 : plainName "com/example/tidemine/tidemine/PatternTrieTruncatePinLaw" = true := by first | (simp [plainName, overriddenIn]; done) | decide +kernel
theorem ef_3 (m : MethodId) (x0 : Addr) (x1 : Int32) (x2 : Int32) (x3 : Int32) (x4 : Int32) (x5 : Int32) (x6 : Int32) (x7 : Int32) (x8 : Int32) (x9 : Int32) (x10 : Int32) (x11 : Int32) : entryFrame m #[(.ref x0), (.int x1), (.int x2), (.int x3), (.int x4), (.int x5), (.int x6), (.int x7), (.int x8), (.int x9), (.int x10), (.int x11)] 18 = mkF m 0 #[.val (.ref x0), .val (.int x1), .val (.int x2), .val (.int x3), .val (.int x4), .val (.int x5), .val (.int x6), .val (.int x7), .val (.int x8), .val (.int x9), .val (.int x10), .val (.int x11), .unset, .unset, .unset, .unset, .unset, .unset] [] := by first | (simp [entryFrame, mkF, argsToLocals, Value.category]; done) | rfl
def Q3 (Z : State) (a1 : Addr) (p2 : Int32) (p3 : Int32) (p4 : Int32) (p5 : Int32) (p6 : Int32) (p7 : Int32) (p8 : Int32) (p9 : Int32) (p10 : Int32) (p11 : Int32) (p12 : Int32) (bi bf bp bc bn : Addr) (ki kf kp kc kn : ClassId) (I F : List Int32) (n : Nat) (h0 : Heap) (n0 : Nat) (v : Option Value) (h : Heap) (L : List Loc) : Prop := v = some (.int (1 : Int32)) ∧ Fr n0 L ∧ h0.size ≤ h.size ∧ own_St Z h n0 a1 bi bf bp bc bn ki kf kp kc kn I F 7
theorem rm3 (l : Launch) (Z : State) (a0 : Array Value) (hw : ∀ d ∈ tables_1, d.before a0 Z = true) (ws : List Jvm.Cond) (a1 : Addr) (p2 : Int32) (p3 : Int32) (p4 : Int32) (p5 : Int32) (p6 : Int32) (p7 : Int32) (p8 : Int32) (p9 : Int32) (p10 : Int32) (p11 : Int32) (p12 : Int32) (bi bf bp bc bn : Addr) (ki kf kp kc kn : ClassId) (I F : List Int32) (n : Nat) (h0 : Heap) (n0 : Nat) (Z0 : n0 ≤ h0.size) (CX : own_Cx Z n0 a1 bi bf bp bc bn kc I F) (ST : own_St Z h0 n0 a1 bi bf bp bc bn ki kf kp kc kn I F n) (hn1 : 1 ≤ n) (hn7 : n ≤ 7) (hI1 : I.getD 1 0 = p2) (hI2 : I.getD 2 0 = p3) (hI3 : I.getD 3 0 = p4) (hI4 : I.getD 4 0 = p5) (hI5 : I.getD 5 0 = p7) (hI6 : I.getD 6 0 = p8) (hF1 : F.getD 1 0 = p9) (hF2 : F.getD 2 0 = (if p9 = (0 : Int32) then (1 : Int32) else (0 : Int32))) (hF3 : F.getD 3 0 = p10) (hF4 : F.getD 4 0 = p6) (hF5 : F.getD 5 0 = p11) (hF6 : F.getD 6 0 = p12) :
    MetFree l mn_7 (head1 (Jvm.Cond.code mn_7 method_3_code 18 (some .boolean) :: ws) ({ frames := 3, cells := 6, slots := 24, locals := 54 } : Room)) (fun a U => a = #[(.ref a1), (.int p2), (.int p3), (.int p4), (.int p5), (.int p6), (.int p7), (.int p8), (.int p9), (.int p10), (.int p11), (.int p12)] ∧ Z.Warmed39 U.vm ∧ U.heap = h0) (fun _ _ _ _ _ => True) (fun _ U o U' => ∃ v L, o = .returned v ∧ Q3 Z a1 p2 p3 p4 p5 p6 p7 p8 p9 p10 p11 p12 bi bf bp bc bn ki kf kp kc kn I F n h0 n0 v U'.heap L ∧ FrameEnd U o U' L ({ frames := 3, cells := 6, slots := 24, locals := 54 } : Room).cells ({ frames := 3, cells := 6, slots := 24, locals := 54 } : Room).slots) := by
  refine MetFree.of_bodySF (plainFor_of_name pn_3) hisR ?_
  intro p e s m args below meth c s₁ Bd hml0 hP hK
  obtain ⟨rfl, hZ, hh⟩ := hP
  have hx := Bd.exec
  have hby := Bd.bytes
  have hml : c.maxLocals = 18 := hml0
  have hown : s.vm.findClass "com/example/tidemine/tidemine/PatternTrieTruncatePinLaw" = some m.cls := findClass_of_methodNamed Bd.named
  have hnm := (name_of_methodNamed Bd.named Bd.method).1
  have X0 : Stand p l e ({ frames := 3, cells := 6, slots := 24, locals := 54 } : Room) s m #[(.ref a1), (.int p2), (.int p3), (.int p4), (.int p5), (.int p6), (.int p7), (.int p8), (.int p9), (.int p10), (.int p11), (.int p12)] below meth c s₁ [] 0 0 := Stand.of_body Bd
  have e0 : s₁.heap = h0 := by rw [← hh, Bd.state]; rfl
  have N0 := Fr.nil n0
  have K0 := Keep.refl h0 []
  have pre0 : ∀ t, Steps p.tables e below (s₁.setTop (mkF m 0 #[.val (.ref a1), .val (.int p2), .val (.int p3), .val (.int p4), .val (.int p5), .val (.int p6), .val (.int p7), .val (.int p8), .val (.int p9), .val (.int p10), .val (.int p11), .val (.int p12), .unset, .unset, .unset, .unset, .unset, .unset] [])) t → Steps p.tables e below (s₁.setTop (entryFrame m #[(.ref a1), (.int p2), (.int p3), (.int p4), (.int p5), (.int p6), (.int p7), (.int p8), (.int p9), (.int p10), (.int p11), (.int p12)] 18)) t := fun t k => castTop (ef_3 m a1 p2 p3 p4 p5 p6 p7 p8 p9 p10 p11 p12) k
  obtain ⟨cq1, kq1, q1a, q1b, q1c⟩ := isOf hZ e0 (own_StE ST).1
  obtain ⟨_, _, ⟨T1, L1, k1, n1⟩, -, X1, ⟨Lc1, hQ1, l1, y1, z1⟩, st1⟩ := X0.virtualBack hx (y := mn_3) (z := mn_3) hown (mvT hZ (ww hw 30 rfl)) (mvT hZ (ww hw 31 rfl)) (notFace_of_selects (args := #[]) (mvT hZ (ww hw 33 rfl))) (mvT hZ (ww hw 33 rfl)) (mvT hZ (ww hw 32 rfl)) (by decide) (backOf (W := 0) (rm4_u1 l Z a0 hw [] a1 p2 p9 bi bf bp bc bn ki kf kp kc kn I F n h0 n0 (Nat.le_trans Z0 K0.1) CX ST (by omega) (by omega) hI1 hF1) hZ (ww hw 34 rfl) (ww hw 3 rfl) (by decide) (by decide)) q1a q1c (g := (mkF m 5 #[vR a1, vI p2, vI p3, vI p4, vI p5, vI p6, vI p7, vI p8, vI p9, vI p10, vI p11, vI p12, .unset, .unset, .unset, .unset, .unset, .unset] [iI p9, iI p2, iI 0, iR a1])) rfl (by rw [hml]; rfl) (Steps.refl _) (argsL := [(.int (0 : Int32)), (.int p2), (.int p9)]) (rest := []) (lenOf pd_2 rfl) rfl (wz rfl) (hb hby d3_5) (fun _ _ => ⟨rfl, e0, (by decide : 0 + 1 ≤ _), (by decide : 0 + 4 ≤ _)⟩)
  dsimp only [Pt.U, Pt.locs, Pt.cells, Pt.slots] at X1 l1 y1 z1 st1 hQ1
  subst l1 y1 z1
  obtain ⟨rfl, N1q, hz1, ST1⟩ := hQ1
  have N1 := Fr.app N0 N1q
  have K1 : h0.size ≤ T1.heap.size ∧ True := ⟨Nat.le_trans K0.1 hz1, trivial⟩
  obtain ⟨v2, hv2⟩ : ∃ z : Int32, z = (if p9 = (0 : Int32) then (1 : Int32) else (0 : Int32)) := ⟨_, rfl⟩
  obtain ⟨T3, X3, e3, st3⟩ : own_Mid X1 T1.heap (mkF m 15 #[vR a1, vI p2, vI p3, vI p4, vI p5, vI p6, vI p7, vI p8, vI p9, vI p10, vI p11, vI p12, vI 1, .unset, .unset, .unset, .unset, .unset] [iI p9, iI p3, iI 0, iR a1]) (mkF m 23 #[vR a1, vI p2, vI p3, vI p4, vI p5, vI p6, vI p7, vI p8, vI p9, vI p10, vI p11, vI p12, vI 1, .unset, .unset, .unset, .unset, .unset] [iI v2, iI p3, iI 0, iR a1]) := by
    by_cases hc4 : p9 = (0 : Int32)
    · refine ⟨T1, X1, rfl, fun t kt => ?_⟩
      subst hv2
      simp only [if_pos hc4] at kt
      refine XS.ifNo X1.here hx rfl (hb hby d3_15) rfl ((if0 _ _).trans (teq hc4).2) ?_
      refine XS.iconst X1.here hx rfl (hb hby d3_18) ?_
      refine XS.goto X1.here hx rfl (pc0 := 19) (pc' := 23) rfl (hb hby d3_19) (by decide) (by decide) ?_
      exact kt
    · refine ⟨T1, X1, rfl, fun t kt => ?_⟩
      subst hv2
      simp only [if_neg hc4] at kt
      refine XS.ifYes X1.here hx rfl (pc0 := 15) (pc' := 22) rfl (hb hby d3_15) rfl ((if0 _ _).trans (feq hc4).2) (by decide) (by decide) ?_
      refine XS.iconst X1.here hx rfl (hb hby d3_22) ?_
      exact kt
  obtain ⟨cq5, kq5, q5a, q5b, q5c⟩ := isOf hZ e3 (own_StE ST1).1
  obtain ⟨_, _, ⟨T5, L5, k5, n5⟩, -, X5, ⟨Lc5, hQ5, l5, y5, z5⟩, st5⟩ := X3.virtualBack hx (y := mn_3) (z := mn_3) hown (mvT hZ (ww hw 30 rfl)) (mvT hZ (ww hw 31 rfl)) (notFace_of_selects (args := #[]) (mvT hZ (ww hw 33 rfl))) (mvT hZ (ww hw 33 rfl)) (mvT hZ (ww hw 32 rfl)) (by decide) (backOf (W := 0) (rm4_u2 l Z a0 hw [] a1 p3 v2 bi bf bp bc bn ki kf kp kc kn I F (max n (1 + 1)) T1.heap n0 (Nat.le_trans Z0 K1.1) CX ST1 (by omega) (by omega) hI2 (hF2.trans hv2.symm)) hZ (ww hw 34 rfl) (ww hw 3 rfl) (by decide) (by decide)) q5a q5c (g := (mkF m 23 #[vR a1, vI p2, vI p3, vI p4, vI p5, vI p6, vI p7, vI p8, vI p9, vI p10, vI p11, vI p12, vI 1, .unset, .unset, .unset, .unset, .unset] [iI v2, iI p3, iI 0, iR a1])) rfl (by rw [hml]; rfl) (Steps.refl _) (argsL := [(.int (0 : Int32)), (.int p3), (.int v2)]) (rest := []) (lenOf pd_2 rfl) rfl (wz rfl) (hb hby d3_23) (fun _ _ => ⟨rfl, e3, (by decide : 1 + 1 ≤ _), (by decide : 4 + 4 ≤ _)⟩)
  dsimp only [Pt.U, Pt.locs, Pt.cells, Pt.slots] at X5 l5 y5 z5 st5 hQ5
  subst l5 y5 z5
  obtain ⟨rfl, N5q, hz5, ST5⟩ := hQ5
  have N5 := Fr.app N1 N5q
  have K5 : h0.size ≤ T5.heap.size ∧ True := ⟨Nat.le_trans K1.1 hz5, trivial⟩
  obtain ⟨cq6, kq6, q6a, q6b, q6c⟩ := isOf hZ rfl (own_StE ST5).1
  obtain ⟨_, _, ⟨T6, L6, k6, n6⟩, -, X6, ⟨Lc6, hQ6, l6, y6, z6⟩, st6⟩ := X5.virtualBack hx (y := mn_3) (z := mn_3) hown (mvT hZ (ww hw 30 rfl)) (mvT hZ (ww hw 31 rfl)) (notFace_of_selects (args := #[]) (mvT hZ (ww hw 33 rfl))) (mvT hZ (ww hw 33 rfl)) (mvT hZ (ww hw 32 rfl)) (by decide) (backOf (W := 0) (rm4_u3 l Z a0 hw [] a1 p4 p10 bi bf bp bc bn ki kf kp kc kn I F (max (max n (1 + 1)) (2 + 1)) T5.heap n0 (Nat.le_trans Z0 K5.1) CX ST5 (by omega) (by omega) hI3 hF3) hZ (ww hw 34 rfl) (ww hw 3 rfl) (by decide) (by decide)) q6a q6c (g := (mkF m 33 #[vR a1, vI p2, vI p3, vI p4, vI p5, vI p6, vI p7, vI p8, vI p9, vI p10, vI p11, vI p12, vI 1, vI 2, .unset, .unset, .unset, .unset] [iI p10, iI p4, iI 1, iR a1])) rfl (by rw [hml]; rfl) (Steps.refl _) (argsL := [(.int (1 : Int32)), (.int p4), (.int p10)]) (rest := []) (lenOf pd_2 rfl) rfl (wz rfl) (hb hby d3_33) (fun _ _ => ⟨rfl, rfl, (by decide : 2 + 1 ≤ _), (by decide : 8 + 4 ≤ _)⟩)
  dsimp only [Pt.U, Pt.locs, Pt.cells, Pt.slots] at X6 l6 y6 z6 st6 hQ6
  subst l6 y6 z6
  obtain ⟨rfl, N6q, hz6, ST6⟩ := hQ6
  have N6 := Fr.app N5 N6q
  have K6 : h0.size ≤ T6.heap.size ∧ True := ⟨Nat.le_trans K5.1 hz6, trivial⟩
  obtain ⟨cq7, kq7, q7a, q7b, q7c⟩ := isOf hZ rfl (own_StE ST6).1
  obtain ⟨_, _, ⟨T7, L7, k7, n7⟩, -, X7, ⟨Lc7, hQ7, l7, y7, z7⟩, st7⟩ := X6.virtualBack hx (y := mn_3) (z := mn_3) hown (mvT hZ (ww hw 30 rfl)) (mvT hZ (ww hw 31 rfl)) (notFace_of_selects (args := #[]) (mvT hZ (ww hw 33 rfl))) (mvT hZ (ww hw 33 rfl)) (mvT hZ (ww hw 32 rfl)) (by decide) (backOf (W := 0) (rm4_u4 l Z a0 hw [] a1 p5 p6 bi bf bp bc bn ki kf kp kc kn I F (max (max (max n (1 + 1)) (2 + 1)) (3 + 1)) T6.heap n0 (Nat.le_trans Z0 K6.1) CX ST6 (by omega) (by omega) hI4 hF4) hZ (ww hw 34 rfl) (ww hw 3 rfl) (by decide) (by decide)) q7a q7c (g := (mkF m 44 #[vR a1, vI p2, vI p3, vI p4, vI p5, vI p6, vI p7, vI p8, vI p9, vI p10, vI p11, vI p12, vI 1, vI 2, vI 3, .unset, .unset, .unset] [iI p6, iI p5, iI 0, iR a1])) rfl (by rw [hml]; rfl) (Steps.refl _) (argsL := [(.int (0 : Int32)), (.int p5), (.int p6)]) (rest := []) (lenOf pd_2 rfl) rfl (wz rfl) (hb hby d3_44) (fun _ _ => ⟨rfl, rfl, (by decide : 3 + 1 ≤ _), (by decide : 12 + 4 ≤ _)⟩)
  dsimp only [Pt.U, Pt.locs, Pt.cells, Pt.slots] at X7 l7 y7 z7 st7 hQ7
  subst l7 y7 z7
  obtain ⟨rfl, N7q, hz7, ST7⟩ := hQ7
  have N7 := Fr.app N6 N7q
  have K7 : h0.size ≤ T7.heap.size ∧ True := ⟨Nat.le_trans K6.1 hz7, trivial⟩
  obtain ⟨cq8, kq8, q8a, q8b, q8c⟩ := isOf hZ rfl (own_StE ST7).1
  obtain ⟨_, _, ⟨T8, L8, k8, n8⟩, -, X8, ⟨Lc8, hQ8, l8, y8, z8⟩, st8⟩ := X7.virtualBack hx (y := mn_3) (z := mn_3) hown (mvT hZ (ww hw 30 rfl)) (mvT hZ (ww hw 31 rfl)) (notFace_of_selects (args := #[]) (mvT hZ (ww hw 33 rfl))) (mvT hZ (ww hw 33 rfl)) (mvT hZ (ww hw 32 rfl)) (by decide) (backOf (W := 0) (rm4_u5 l Z a0 hw [] a1 p7 p11 bi bf bp bc bn ki kf kp kc kn I F (max (max (max (max n (1 + 1)) (2 + 1)) (3 + 1)) (4 + 1)) T7.heap n0 (Nat.le_trans Z0 K7.1) CX ST7 (by omega) (by omega) hI5 hF5) hZ (ww hw 34 rfl) (ww hw 3 rfl) (by decide) (by decide)) q8a q8c (g := (mkF m 55 #[vR a1, vI p2, vI p3, vI p4, vI p5, vI p6, vI p7, vI p8, vI p9, vI p10, vI p11, vI p12, vI 1, vI 2, vI 3, vI 4, .unset, .unset] [iI p11, iI p7, iI 2, iR a1])) rfl (by rw [hml]; rfl) (Steps.refl _) (argsL := [(.int (2 : Int32)), (.int p7), (.int p11)]) (rest := []) (lenOf pd_2 rfl) rfl (wz rfl) (hb hby d3_55) (fun _ _ => ⟨rfl, rfl, (by decide : 4 + 1 ≤ _), (by decide : 16 + 4 ≤ _)⟩)
  dsimp only [Pt.U, Pt.locs, Pt.cells, Pt.slots] at X8 l8 y8 z8 st8 hQ8
  subst l8 y8 z8
  obtain ⟨rfl, N8q, hz8, ST8⟩ := hQ8
  have N8 := Fr.app N7 N8q
  have K8 : h0.size ≤ T8.heap.size ∧ True := ⟨Nat.le_trans K7.1 hz8, trivial⟩
  obtain ⟨cq9, kq9, q9a, q9b, q9c⟩ := isOf hZ rfl (own_StE ST8).1
  obtain ⟨_, _, ⟨T9, L9, k9, n9⟩, -, X9, ⟨Lc9, hQ9, l9, y9, z9⟩, st9⟩ := X8.virtualBack hx (y := mn_3) (z := mn_3) hown (mvT hZ (ww hw 30 rfl)) (mvT hZ (ww hw 31 rfl)) (notFace_of_selects (args := #[]) (mvT hZ (ww hw 33 rfl))) (mvT hZ (ww hw 33 rfl)) (mvT hZ (ww hw 32 rfl)) (by decide) (backOf (W := 0) (rm4_u6 l Z a0 hw [] a1 p8 p12 bi bf bp bc bn ki kf kp kc kn I F (max (max (max (max (max n (1 + 1)) (2 + 1)) (3 + 1)) (4 + 1)) (5 + 1)) T8.heap n0 (Nat.le_trans Z0 K8.1) CX ST8 (by omega) (by omega) hI6 hF6) hZ (ww hw 34 rfl) (ww hw 3 rfl) (by decide) (by decide)) q9a q9c (g := (mkF m 66 #[vR a1, vI p2, vI p3, vI p4, vI p5, vI p6, vI p7, vI p8, vI p9, vI p10, vI p11, vI p12, vI 1, vI 2, vI 3, vI 4, vI 5, .unset] [iI p12, iI p8, iI 2, iR a1])) rfl (by rw [hml]; rfl) (Steps.refl _) (argsL := [(.int (2 : Int32)), (.int p8), (.int p12)]) (rest := []) (lenOf pd_2 rfl) rfl (wz rfl) (hb hby d3_66) (fun _ _ => ⟨rfl, rfl, (by decide : 5 + 1 ≤ _), (by decide : 20 + 4 ≤ _)⟩)
  dsimp only [Pt.U, Pt.locs, Pt.cells, Pt.slots] at X9 l9 y9 z9 st9 hQ9
  subst l9 y9 z9
  obtain ⟨rfl, N9q, hz9, ST9⟩ := hQ9
  have N9 := Fr.app N8 N9q
  have K9 : h0.size ≤ T9.heap.size ∧ True := ⟨Nat.le_trans K8.1 hz9, trivial⟩
  obtain ⟨fs, hr, hrun, hended, hW, hsame⟩ := X9.leave (v := some (.int (1 : Int32))) (fun h => by rw [Bd.returns] at h; cases h)
  refine ⟨_, _, pre0 _ ?_, hrun, hended, _, _, rfl, ?_, ⟨_, rfl⟩, hW, hsame.mono (by decide) (by decide)⟩
  · refine XS.aloadN X0.here hx rfl (hb hby d3_0) rfl rfl ?_
    refine XS.iconst X0.here hx rfl (hb hby d3_1) ?_
    refine XS.iloadN X0.here hx rfl (hb hby d3_2) rfl ?_
    refine XS.iload X0.here hx rfl (hb hby d3_3) rfl ?_
    refine st1.trans ?_
    refine XS.istore X1.here hx rfl (hb hby d3_8) rfl (l' := #[vR a1, vI p2, vI p3, vI p4, vI p5, vI p6, vI p7, vI p8, vI p9, vI p10, vI p11, vI p12, vI 1, .unset, .unset, .unset, .unset, .unset]) rfl ?_
    refine XS.aloadN X1.here hx rfl (hb hby d3_10) rfl rfl ?_
    refine XS.iconst X1.here hx rfl (hb hby d3_11) ?_
    refine XS.iloadN X1.here hx rfl (hb hby d3_12) rfl ?_
    refine XS.iload X1.here hx rfl (hb hby d3_13) rfl ?_
    refine st3 _ ?_
    refine st5.trans ?_
    refine XS.istore X5.here hx rfl (hb hby d3_26) rfl (l' := #[vR a1, vI p2, vI p3, vI p4, vI p5, vI p6, vI p7, vI p8, vI p9, vI p10, vI p11, vI p12, vI 1, vI 2, .unset, .unset, .unset, .unset]) rfl ?_
    refine XS.aloadN X5.here hx rfl (hb hby d3_28) rfl rfl ?_
    refine XS.iconst X5.here hx rfl (hb hby d3_29) ?_
    refine XS.iloadN X5.here hx rfl (hb hby d3_30) rfl ?_
    refine XS.iload X5.here hx rfl (hb hby d3_31) rfl ?_
    refine st6.trans ?_
    refine XS.istore X6.here hx rfl (hb hby d3_36) rfl (l' := #[vR a1, vI p2, vI p3, vI p4, vI p5, vI p6, vI p7, vI p8, vI p9, vI p10, vI p11, vI p12, vI 1, vI 2, vI 3, .unset, .unset, .unset]) rfl ?_
    refine XS.aloadN X6.here hx rfl (hb hby d3_38) rfl rfl ?_
    refine XS.iconst X6.here hx rfl (hb hby d3_39) ?_
    refine XS.iload X6.here hx rfl (hb hby d3_40) rfl ?_
    refine XS.iload X6.here hx rfl (hb hby d3_42) rfl ?_
    refine st7.trans ?_
    refine XS.istore X7.here hx rfl (hb hby d3_47) rfl (l' := #[vR a1, vI p2, vI p3, vI p4, vI p5, vI p6, vI p7, vI p8, vI p9, vI p10, vI p11, vI p12, vI 1, vI 2, vI 3, vI 4, .unset, .unset]) rfl ?_
    refine XS.aloadN X7.here hx rfl (hb hby d3_49) rfl rfl ?_
    refine XS.iconst X7.here hx rfl (hb hby d3_50) ?_
    refine XS.iload X7.here hx rfl (hb hby d3_51) rfl ?_
    refine XS.iload X7.here hx rfl (hb hby d3_53) rfl ?_
    refine st8.trans ?_
    refine XS.istore X8.here hx rfl (hb hby d3_58) rfl (l' := #[vR a1, vI p2, vI p3, vI p4, vI p5, vI p6, vI p7, vI p8, vI p9, vI p10, vI p11, vI p12, vI 1, vI 2, vI 3, vI 4, vI 5, .unset]) rfl ?_
    refine XS.aloadN X8.here hx rfl (hb hby d3_60) rfl rfl ?_
    refine XS.iconst X8.here hx rfl (hb hby d3_61) ?_
    refine XS.iload X8.here hx rfl (hb hby d3_62) rfl ?_
    refine XS.iload X8.here hx rfl (hb hby d3_64) rfl ?_
    refine st9.trans ?_
    refine XS.istore X9.here hx rfl (hb hby d3_69) rfl (l' := #[vR a1, vI p2, vI p3, vI p4, vI p5, vI p6, vI p7, vI p8, vI p9, vI p10, vI p11, vI p12, vI 1, vI 2, vI 3, vI 4, vI 5, vI 6]) rfl ?_
    refine XS.iload X9.here hx rfl (hb hby d3_71) rfl ?_
    refine XS.iconst X9.here hx rfl (hb hby d3_73) ?_
    refine XS.icmpNo X9.here hx rfl (hb hby d3_74) rfl (teq (by decide : (1 : Int32) = (1 : Int32))).2 ?_
    refine XS.iload X9.here hx rfl (hb hby d3_77) rfl ?_
    refine XS.iconst X9.here hx rfl (hb hby d3_79) ?_
    refine XS.icmpNo X9.here hx rfl (hb hby d3_80) rfl (teq (by decide : (2 : Int32) = (2 : Int32))).2 ?_
    refine XS.iload X9.here hx rfl (hb hby d3_83) rfl ?_
    show SA T9 m 85 #[vR a1, vI p2, vI p3, vI p4, vI p5, vI p6, vI p7, vI p8, vI p9, vI p10, vI p11, vI p12, vI 1, vI 2, vI 3, vI 4, vI 5, vI 6] [iI 3]
    refine XS.iconst X9.here hx rfl (hb hby d3_85) ?_
    refine XS.icmpNo X9.here hx rfl (hb hby d3_86) rfl (teq (by decide : (3 : Int32) = (3 : Int32))).2 ?_
    refine XS.iload X9.here hx rfl (hb hby d3_89) rfl ?_
    refine XS.iconst X9.here hx rfl (hb hby d3_91) ?_
    refine XS.icmpNo X9.here hx rfl (hb hby d3_92) rfl (teq (by decide : (4 : Int32) = (4 : Int32))).2 ?_
    refine XS.iload X9.here hx rfl (hb hby d3_95) rfl ?_
    refine XS.iconst X9.here hx rfl (hb hby d3_97) ?_
    refine XS.icmpNo X9.here hx rfl (hb hby d3_98) rfl (teq (by decide : (5 : Int32) = (5 : Int32))).2 ?_
    show SA T9 m 101 #[vR a1, vI p2, vI p3, vI p4, vI p5, vI p6, vI p7, vI p8, vI p9, vI p10, vI p11, vI p12, vI 1, vI 2, vI 3, vI 4, vI 5, vI 6] []
    refine XS.iload X9.here hx rfl (hb hby d3_101) rfl ?_
    refine XS.bipush X9.here hx rfl (hb hby d3_103) ?_
    refine XS.icmpNo X9.here hx rfl (hb hby d3_105) rfl (teq (by decide : (6 : Int32) = (6 : Int32))).2 ?_
    refine XS.iconst X9.here hx rfl (hb hby d3_108) ?_
    refine XS.goto X9.here hx rfl (pc0 := 109) (pc' := 113) rfl (hb hby d3_109) (by decide) (by decide) ?_
    show Steps _ _ _ (T9.setTop (mkF m 113 #[vR a1, vI p2, vI p3, vI p4, vI p5, vI p6, vI p7, vI p8, vI p9, vI p10, vI p11, vI p12, vI 1, vI 2, vI 3, vI 4, vI 5, vI 6] [iI 1])) _
    exact retN X9 hx (t := .boolean) Bd.returns (by simp) (hb hby d3_113) hr
  · show Q3 Z a1 p2 p3 p4 p5 p6 p7 p8 p9 p10 p11 p12 bi bf bp bc bn ki kf kp kc kn I F n h0 n0 _ T9.heap _
    exact ⟨rfl, N9, K9.1, (by have e : (max (max (max (max (max (max n (1 + 1)) (2 + 1)) (3 + 1)) (4 + 1)) (5 + 1)) (6 + 1)) = 7 := (by omega); rw [← e]; exact ST9)⟩
theorem own_kp1 (a b c d e f a' b' c' d' e' f' : Int32) : own_kp [0, a, b, c, d, e, f] [0, a', b', c', d', e', f'] 1 = own_kv a a' := rfl
theorem own_kp2 (a b c d e f a' b' c' d' e' f' : Int32) : own_kp [0, a, b, c, d, e, f] [0, a', b', c', d', e', f'] 2 = own_kv b b' := rfl
theorem own_kp4 (a b c d e f a' b' c' d' e' f' : Int32) : own_kp [0, a, b, c, d, e, f] [0, a', b', c', d', e', f'] 4 = own_kv d d' := rfl
theorem own_kp5 (a b c d e f a' b' c' d' e' f' : Int32) : own_kp [0, a, b, c, d, e, f] [0, a', b', c', d', e', f'] 5 = own_kv e e' := rfl
theorem own_kp6 (a b c d e f a' b' c' d' e' f' : Int32) : own_kp [0, a, b, c, d, e, f] [0, a', b', c', d', e', f'] 6 = own_kv f f' := rfl
theorem own_rem (x y : Int32) (d : Int) (hy : y.toInt = d) (hd : 0 < d) : 0 ≤ ((x &&& 2147483647) % y).toInt ∧ ((x &&& 2147483647) % y).toInt < d := by
  have h0 : 0 ≤ (x &&& 2147483647).toInt := (c_and x 2147483647 (by decide)).1
  rw [(c_irem (x &&& 2147483647) y d hy).1 h0]
  exact ⟨Int.emod_nonneg _ (by omega), Int.emod_lt_of_pos _ hd⟩

theorem own_x1 (x : Int32) : ¬ (x ^^^ (1 : Int32)) = x := fun h => by
  have h1 : x ^^^ (x ^^^ (1 : Int32)) = x ^^^ x := by rw [h]
  rw [← Int32.xor_assoc, Int32.xor_self, Int32.zero_xor] at h1
  exact absurd h1 (by decide)
theorem own_b01 {v : Int32} {P : Prop} [Decidable P] (h : v = if P then (0 : Int32) else (1 : Int32)) : v = 0 ∨ v = 1 := by rw [h]; split <;> simp
theorem own_nb {f : Int32} (h : f = 0 ∨ f = 1) : ((if f = (0 : Int32) then (1 : Int32) else (0 : Int32)) = 0 ∨ (if f = (0 : Int32) then (1 : Int32) else (0 : Int32)) = 1) ∧ ¬ f = (if f = (0 : Int32) then (1 : Int32) else (0 : Int32)) := by rcases h with rfl | rfl <;> decide
theorem own_keys {x y z v w fa fz fv fw c cf f6 : Int32} (ha : fa = 0 ∨ fa = 1) (hz : fz = 0 ∨ fz = 1) (hv : fv = 0 ∨ fv = 1) (hw : fw = 0 ∨ fw = 1) (hc : c = (if z = x then (if z = y then (x ^^^ (1 : Int32)) else z) else z)) (hcf : cf = (if z = x then (if z = y then fz else (if fa = (0 : Int32) then (1 : Int32) else (0 : Int32))) else (if z = y then fa else fz))) (h6 : f6 = (if w = v then (if fv = (0 : Int32) then (1 : Int32) else (0 : Int32)) else fw)) : (cf = 0 ∨ cf = 1) ∧ (f6 = 0 ∨ f6 = 1) ∧ own_kv x fa ≠ own_kv y (if fa = (0 : Int32) then (1 : Int32) else (0 : Int32)) ∧ own_kv x fa ≠ own_kv c cf ∧ own_kv y (if fa = (0 : Int32) then (1 : Int32) else (0 : Int32)) ≠ own_kv c cf ∧ own_kv v fv ≠ own_kv w f6 := by
  have nb := own_nb ha
  have nv := own_nb hv
  have hcf1 : cf = 0 ∨ cf = 1 := by
    rw [hcf]
    by_cases q1 : z = x
    · by_cases q2 : z = y
      · simp only [if_pos q1, if_pos q2]; exact hz
      · simp only [if_pos q1, if_neg q2]; exact nb.1
    · by_cases q2 : z = y
      · simp only [if_neg q1, if_pos q2]; exact ha
      · simp only [if_neg q1, if_neg q2]; exact hz
  have h61 : f6 = 0 ∨ f6 = 1 := by
    rw [h6]
    by_cases q1 : w = v
    · simp only [if_pos q1]; exact nv.1
    · simp only [if_neg q1]; exact hw
  refine ⟨hcf1, h61, fun q => nb.2 (own_kvI ha nb.1 q).2, fun q => ?_, fun q => ?_, fun q => ?_⟩
  · obtain ⟨e1, e2⟩ := own_kvI ha hcf1 q
    rw [hc] at e1
    rw [hcf] at e2
    by_cases q1 : z = x
    · by_cases q2 : z = y
      · simp only [if_pos q1, if_pos q2] at e1; exact own_x1 x e1.symm
      · simp only [if_pos q1, if_neg q2] at e2; exact nb.2 e2
    · by_cases q2 : z = y
      · simp only [if_neg q1] at e1; exact q1 e1.symm
      · simp only [if_neg q1] at e1; exact q1 e1.symm
  · obtain ⟨e1, e2⟩ := own_kvI nb.1 hcf1 q
    rw [hc] at e1
    rw [hcf] at e2
    by_cases q1 : z = x
    · by_cases q2 : z = y
      · simp only [if_pos q1, if_pos q2] at e1; exact own_x1 x (e1.symm.trans (q2.symm.trans q1))
      · simp only [if_pos q1, if_neg q2] at e1; exact q2 e1.symm
    · by_cases q2 : z = y
      · simp only [if_neg q1, if_pos q2] at e2; exact nb.2 e2.symm
      · simp only [if_neg q1] at e1; exact q2 e1.symm
  · obtain ⟨e1, e2⟩ := own_kvI hv h61 q
    rw [h6] at e2
    simp only [if_pos e1.symm] at e2
    exact nv.2 e2
theorem own_flags {a b c d e f : Int32} (h1 : a = 0 ∨ a = 1) (h2 : b = 0 ∨ b = 1) (h3 : c = 0 ∨ c = 1) (h4 : d = 0 ∨ d = 1) (h5 : e = 0 ∨ e = 1) (h6 : f = 0 ∨ f = 1) : ∀ i : Nat, ([0, a, b, c, d, e, f] : List Int32).getD i 0 = 0 ∨ ([0, a, b, c, d, e, f] : List Int32).getD i 0 = 1
  | 0 => Or.inl rfl
  | 1 => h1
  | 2 => h2
  | 3 => h3
  | 4 => h4
  | 5 => h5
  | 6 => h6
  | _ + 7 => Or.inl rfl
theorem own_k7 (x : Int32) : ∃ K : Nat, 1 ≤ K ∧ K ≤ 7 ∧ ((1 : Int32) + ((x &&& (2147483647 : Int32)) % (7 : Int32))) = Int32.ofNat K := by
  have h := own_rem x 7 7 rfl (by decide)
  have q := c_iadd 1 ((x &&& 2147483647) % 7)
  have r := rng32 ((1 : Int32) + ((x &&& 2147483647) % 7))
  have e : (1 : Int32).toInt = 1 := rfl
  refine ⟨(((1 : Int32) + ((x &&& 2147483647) % 7))).toInt.toNat, by omega, by omega, Int32.toInt_inj.mp ?_⟩
  rw [Int32.toInt_ofNat_of_lt (by omega)]
  omega

theorem ef_0 (m : MethodId) (x0 : Int64) (x1 : Int64) (x2 : Int64) (x3 : Int32) (x4 : Int32) : entryFrame m #[(.long x0), (.long x1), (.long x2), (.int x3), (.int x4)] maxLocals = mkF m 0 #[.val (.long x0), .second, .val (.long x1), .second, .val (.long x2), .second, .val (.int x3), .val (.int x4), .unset, .unset, .unset, .unset, .unset, .unset, .unset, .unset, .unset, .unset, .unset, .unset, .unset, .unset, .unset, .unset, .unset, .unset, .unset, .unset] [] := by first | (simp [entryFrame, mkF, argsToLocals, Value.category, maxLocals]; done) | rfl
def Q0 (Z : State) (q1 : Int64) (q2 : Int64) (q3 : Int64) (p4 : Int32) (p5 : Int32) (h0 : Heap) (n0 : Nat) (v : Option Value) (h : Heap) (L : List Loc) : Prop := v = some (.int (1 : Int32)) ∧ Fr n0 L
theorem rm0 (l : Launch) (Z : State) (a0 : Array Value) (hw : ∀ d ∈ tables_1, d.before a0 Z = true) (ws : List Jvm.Cond) (q1 : Int64) (q2 : Int64) (q3 : Int64) (p4 : Int32) (p5 : Int32) (h0 : Heap) (n0 : Nat) (Z0 : n0 ≤ h0.size) :
    MetFree l x (head1 (Jvm.Cond.code x code maxLocals ret :: ws) room_1) (fun a U => a = #[(.long q1), (.long q2), (.long q3), (.int p4), (.int p5)] ∧ Z.Warmed39 U.vm ∧ U.heap = h0) (fun _ _ _ _ _ => True) (fun _ U o U' => ∃ v L, o = .returned v ∧ Q0 Z q1 q2 q3 p4 p5 h0 n0 v U'.heap L ∧ FrameEnd U o U' L room_1.cells room_1.slots) := by
  refine MetFree.of_bodySF (plainFor_of_name pn_3) hisR ?_
  intro p e s m args below meth c s₁ Bd hml0 hP hK
  obtain ⟨rfl, hZ, hh⟩ := hP
  have hx := Bd.exec
  have hby := Bd.bytes
  have hml : c.maxLocals = 28 := hml0
  have hown : s.vm.findClass "com/example/tidemine/tidemine/PatternTrieTruncatePinLaw" = some m.cls := findClass_of_methodNamed Bd.named
  have hnm := (name_of_methodNamed Bd.named Bd.method).1
  have X0 : Stand p l e room_1 s m #[(.long q1), (.long q2), (.long q3), (.int p4), (.int p5)] below meth c s₁ [] 0 0 := Stand.of_body Bd
  have e0 : s₁.heap = h0 := by rw [← hh, Bd.state]; rfl
  have N0 := Fr.nil n0
  have K0 := Keep.refl h0 []
  have pre0 : ∀ t, Steps p.tables e below (s₁.setTop (mkF m 0 #[.val (.long q1), .second, .val (.long q2), .second, .val (.long q3), .second, .val (.int p4), .val (.int p5), .unset, .unset, .unset, .unset, .unset, .unset, .unset, .unset, .unset, .unset, .unset, .unset, .unset, .unset, .unset, .unset, .unset, .unset, .unset, .unset] [])) t → Steps p.tables e below (s₁.setTop (entryFrame m #[(.long q1), (.long q2), (.long q3), (.int p4), (.int p5)] maxLocals)) t := fun t k => castTop (ef_0 m q1 q2 q3 p4 p5) k
  obtain ⟨x_, hx_⟩ : ∃ z : Int32, z = q1.toInt32 := ⟨_, rfl⟩
  obtain ⟨y_, hy_⟩ : ∃ z : Int32, z = ((q1.toUInt64 >>> ((32 : Int32) &&& 0x3f).toInt64.toUInt64).toInt64).toInt32 := ⟨_, rfl⟩
  obtain ⟨z_, hz_⟩ : ∃ z : Int32, z = q2.toInt32 := ⟨_, rfl⟩
  obtain ⟨u_, hu_⟩ : ∃ z : Int32, z = ((q2.toUInt64 >>> ((32 : Int32) &&& 0x3f).toInt64.toUInt64).toInt64).toInt32 := ⟨_, rfl⟩
  obtain ⟨v_, hv_⟩ : ∃ z : Int32, z = q3.toInt32 := ⟨_, rfl⟩
  obtain ⟨w_, hw_⟩ : ∃ z : Int32, z = ((q3.toUInt64 >>> ((32 : Int32) &&& 0x3f).toInt64.toUInt64).toInt64).toInt32 := ⟨_, rfl⟩
  obtain ⟨v7, hv7⟩ : ∃ z : Int32, z = (if (p4 &&& (1 : Int32)) = (0 : Int32) then (0 : Int32) else (1 : Int32)) := ⟨_, rfl⟩
  obtain ⟨T8, X8, e8, st8⟩ : own_Mid X0 h0 (mkF m 39 #[vJ q1, .second, vJ q2, .second, vJ q3, .second, vI p4, vI p5, vI x_, vI y_, vI z_, vI u_, vI v_, vI w_, .unset, .unset, .unset, .unset, .unset, .unset, .unset, .unset, .unset, .unset, .unset, .unset, .unset, .unset] [iI (p4 &&& (1 : Int32))]) (mkF m 47 #[vJ q1, .second, vJ q2, .second, vJ q3, .second, vI p4, vI p5, vI x_, vI y_, vI z_, vI u_, vI v_, vI w_, .unset, .unset, .unset, .unset, .unset, .unset, .unset, .unset, .unset, .unset, .unset, .unset, .unset, .unset] [iI v7]) := by
    by_cases hc9 : (p4 &&& (1 : Int32)) = (0 : Int32)
    · refine ⟨s₁, X0, e0, fun t kt => ?_⟩
      subst hv7
      simp only [if_pos hc9] at kt
      refine XS.ifYes X0.here hx rfl (pc0 := 39) (pc' := 46) rfl (hb hby at_39) rfl ((if0 _ _).trans (teq hc9).1) (by decide) (by decide) ?_
      refine XS.iconst X0.here hx rfl (hb hby at_46) ?_
      exact kt
    · refine ⟨s₁, X0, e0, fun t kt => ?_⟩
      subst hv7
      simp only [if_neg hc9] at kt
      refine XS.ifNo X0.here hx rfl (hb hby at_39) rfl ((if0 _ _).trans (feq hc9).1) ?_
      refine XS.iconst X0.here hx rfl (hb hby at_42) ?_
      refine XS.goto X0.here hx rfl (pc0 := 43) (pc' := 47) rfl (hb hby at_43) (by decide) (by decide) ?_
      exact kt
  obtain ⟨v10, hv10⟩ : ∃ z : Int32, z = (if (p4 &&& (2 : Int32)) = (0 : Int32) then (0 : Int32) else (1 : Int32)) := ⟨_, rfl⟩
  obtain ⟨T11, X11, e11, st11⟩ : own_Mid X8 h0 (mkF m 53 #[vJ q1, .second, vJ q2, .second, vJ q3, .second, vI p4, vI p5, vI x_, vI y_, vI z_, vI u_, vI v_, vI w_, vI v7, .unset, .unset, .unset, .unset, .unset, .unset, .unset, .unset, .unset, .unset, .unset, .unset, .unset] [iI (p4 &&& (2 : Int32))]) (mkF m 61 #[vJ q1, .second, vJ q2, .second, vJ q3, .second, vI p4, vI p5, vI x_, vI y_, vI z_, vI u_, vI v_, vI w_, vI v7, .unset, .unset, .unset, .unset, .unset, .unset, .unset, .unset, .unset, .unset, .unset, .unset, .unset] [iI v10]) := by
    by_cases hc12 : (p4 &&& (2 : Int32)) = (0 : Int32)
    · refine ⟨T8, X8, e8, fun t kt => ?_⟩
      subst hv10
      simp only [if_pos hc12] at kt
      refine XS.ifYes X8.here hx rfl (pc0 := 53) (pc' := 60) rfl (hb hby at_53) rfl ((if0 _ _).trans (teq hc12).1) (by decide) (by decide) ?_
      refine XS.iconst X8.here hx rfl (hb hby at_60) ?_
      exact kt
    · refine ⟨T8, X8, e8, fun t kt => ?_⟩
      subst hv10
      simp only [if_neg hc12] at kt
      refine XS.ifNo X8.here hx rfl (hb hby at_53) rfl ((if0 _ _).trans (feq hc12).1) ?_
      refine XS.iconst X8.here hx rfl (hb hby at_56) ?_
      refine XS.goto X8.here hx rfl (pc0 := 57) (pc' := 61) rfl (hb hby at_57) (by decide) (by decide) ?_
      exact kt
  obtain ⟨v13, hv13⟩ : ∃ z : Int32, z = (if (p4 &&& (4 : Int32)) = (0 : Int32) then (0 : Int32) else (1 : Int32)) := ⟨_, rfl⟩
  obtain ⟨T14, X14, e14, st14⟩ : own_Mid X11 h0 (mkF m 67 #[vJ q1, .second, vJ q2, .second, vJ q3, .second, vI p4, vI p5, vI x_, vI y_, vI z_, vI u_, vI v_, vI w_, vI v7, vI v10, .unset, .unset, .unset, .unset, .unset, .unset, .unset, .unset, .unset, .unset, .unset, .unset] [iI (p4 &&& (4 : Int32))]) (mkF m 75 #[vJ q1, .second, vJ q2, .second, vJ q3, .second, vI p4, vI p5, vI x_, vI y_, vI z_, vI u_, vI v_, vI w_, vI v7, vI v10, .unset, .unset, .unset, .unset, .unset, .unset, .unset, .unset, .unset, .unset, .unset, .unset] [iI v13]) := by
    by_cases hc15 : (p4 &&& (4 : Int32)) = (0 : Int32)
    · refine ⟨T11, X11, e11, fun t kt => ?_⟩
      subst hv13
      simp only [if_pos hc15] at kt
      refine XS.ifYes X11.here hx rfl (pc0 := 67) (pc' := 74) rfl (hb hby at_67) rfl ((if0 _ _).trans (teq hc15).1) (by decide) (by decide) ?_
      refine XS.iconst X11.here hx rfl (hb hby at_74) ?_
      exact kt
    · refine ⟨T11, X11, e11, fun t kt => ?_⟩
      subst hv13
      simp only [if_neg hc15] at kt
      refine XS.ifNo X11.here hx rfl (hb hby at_67) rfl ((if0 _ _).trans (feq hc15).1) ?_
      refine XS.iconst X11.here hx rfl (hb hby at_70) ?_
      refine XS.goto X11.here hx rfl (pc0 := 71) (pc' := 75) rfl (hb hby at_71) (by decide) (by decide) ?_
      exact kt
  obtain ⟨v16, hv16⟩ : ∃ z : Int32, z = (if (p4 &&& (8 : Int32)) = (0 : Int32) then (0 : Int32) else (1 : Int32)) := ⟨_, rfl⟩
  obtain ⟨T17, X17, e17, st17⟩ : own_Mid X14 h0 (mkF m 82 #[vJ q1, .second, vJ q2, .second, vJ q3, .second, vI p4, vI p5, vI x_, vI y_, vI z_, vI u_, vI v_, vI w_, vI v7, vI v10, vI v13, .unset, .unset, .unset, .unset, .unset, .unset, .unset, .unset, .unset, .unset, .unset] [iI (p4 &&& (8 : Int32))]) (mkF m 90 #[vJ q1, .second, vJ q2, .second, vJ q3, .second, vI p4, vI p5, vI x_, vI y_, vI z_, vI u_, vI v_, vI w_, vI v7, vI v10, vI v13, .unset, .unset, .unset, .unset, .unset, .unset, .unset, .unset, .unset, .unset, .unset] [iI v16]) := by
    by_cases hc18 : (p4 &&& (8 : Int32)) = (0 : Int32)
    · refine ⟨T14, X14, e14, fun t kt => ?_⟩
      subst hv16
      simp only [if_pos hc18] at kt
      refine XS.ifYes X14.here hx rfl (pc0 := 82) (pc' := 89) rfl (hb hby at_82) rfl ((if0 _ _).trans (teq hc18).1) (by decide) (by decide) ?_
      refine XS.iconst X14.here hx rfl (hb hby at_89) ?_
      exact kt
    · refine ⟨T14, X14, e14, fun t kt => ?_⟩
      subst hv16
      simp only [if_neg hc18] at kt
      refine XS.ifNo X14.here hx rfl (hb hby at_82) rfl ((if0 _ _).trans (feq hc18).1) ?_
      refine XS.iconst X14.here hx rfl (hb hby at_85) ?_
      refine XS.goto X14.here hx rfl (pc0 := 86) (pc' := 90) rfl (hb hby at_86) (by decide) (by decide) ?_
      exact kt
  obtain ⟨v19, hv19⟩ : ∃ z : Int32, z = (if (p4 &&& (16 : Int32)) = (0 : Int32) then (0 : Int32) else (1 : Int32)) := ⟨_, rfl⟩
  obtain ⟨T20, X20, e20, st20⟩ : own_Mid X17 h0 (mkF m 97 #[vJ q1, .second, vJ q2, .second, vJ q3, .second, vI p4, vI p5, vI x_, vI y_, vI z_, vI u_, vI v_, vI w_, vI v7, vI v10, vI v13, vI v16, .unset, .unset, .unset, .unset, .unset, .unset, .unset, .unset, .unset, .unset] [iI (p4 &&& (16 : Int32))]) (mkF m 105 #[vJ q1, .second, vJ q2, .second, vJ q3, .second, vI p4, vI p5, vI x_, vI y_, vI z_, vI u_, vI v_, vI w_, vI v7, vI v10, vI v13, vI v16, .unset, .unset, .unset, .unset, .unset, .unset, .unset, .unset, .unset, .unset] [iI v19]) := by
    by_cases hc21 : (p4 &&& (16 : Int32)) = (0 : Int32)
    · refine ⟨T17, X17, e17, fun t kt => ?_⟩
      subst hv19
      simp only [if_pos hc21] at kt
      refine XS.ifYes X17.here hx rfl (pc0 := 97) (pc' := 104) rfl (hb hby at_97) rfl ((if0 _ _).trans (teq hc21).1) (by decide) (by decide) ?_
      refine XS.iconst X17.here hx rfl (hb hby at_104) ?_
      exact kt
    · refine ⟨T17, X17, e17, fun t kt => ?_⟩
      subst hv19
      simp only [if_neg hc21] at kt
      refine XS.ifNo X17.here hx rfl (hb hby at_97) rfl ((if0 _ _).trans (feq hc21).1) ?_
      refine XS.iconst X17.here hx rfl (hb hby at_100) ?_
      refine XS.goto X17.here hx rfl (pc0 := 101) (pc' := 105) rfl (hb hby at_101) (by decide) (by decide) ?_
      exact kt
  obtain ⟨v22, hv22⟩ : ∃ z : Int32, z = (if z_ = x_ then (if z_ = y_ then (x_ ^^^ (1 : Int32)) else z_) else z_) := ⟨_, rfl⟩
  obtain ⟨v23, hv23⟩ : ∃ z : Int32, z = (if z_ = x_ then (if z_ = y_ then v13 else (if v7 = (0 : Int32) then (1 : Int32) else (0 : Int32))) else (if z_ = y_ then v7 else v13)) := ⟨_, rfl⟩
  obtain ⟨T24, X24, e24, st24⟩ : own_Mid X20 h0 (mkF m 115 #[vJ q1, .second, vJ q2, .second, vJ q3, .second, vI p4, vI p5, vI x_, vI y_, vI z_, vI u_, vI v_, vI w_, vI v7, vI v10, vI v13, vI v16, vI v19, vI z_, .unset, .unset, .unset, .unset, .unset, .unset, .unset, .unset] [iI x_, iI z_]) (mkF m 178 #[vJ q1, .second, vJ q2, .second, vJ q3, .second, vI p4, vI p5, vI x_, vI y_, vI z_, vI u_, vI v_, vI w_, vI v7, vI v10, vI v13, vI v16, vI v19, vI v22, vI v23, .unset, .unset, .unset, .unset, .unset, .unset, .unset] []) := by
    by_cases hc25 : z_ = x_
    · have pre27 : ∀ t, Steps p.tables e below (T20.setTop (mkF m 122 #[vJ q1, .second, vJ q2, .second, vJ q3, .second, vI p4, vI p5, vI x_, vI y_, vI z_, vI u_, vI v_, vI w_, vI v7, vI v10, vI v13, vI v16, vI v19, vI z_, .unset, .unset, .unset, .unset, .unset, .unset, .unset, .unset] [iI y_, iI z_])) t → Steps p.tables e below (T20.setTop (mkF m 115 #[vJ q1, .second, vJ q2, .second, vJ q3, .second, vI p4, vI p5, vI x_, vI y_, vI z_, vI u_, vI v_, vI w_, vI v7, vI v10, vI v13, vI v16, vI v19, vI z_, .unset, .unset, .unset, .unset, .unset, .unset, .unset, .unset] [iI x_, iI z_])) t := by
        intro t kt
        refine XS.icmpNo X20.here hx rfl (hb hby at_115) rfl (teq hc25).2 ?_
        refine XS.iload X20.here hx rfl (hb hby at_118) rfl ?_
        refine XS.iload X20.here hx rfl (hb hby at_120) rfl ?_
        exact kt
      by_cases hc26 : z_ = y_
      · refine ⟨T20, X20, e20, fun t kt => ?_⟩
        subst hv22 hv23
        simp only [if_pos hc25, if_pos hc26] at kt
        refine pre27 t ?_
        refine XS.icmpNo X20.here hx rfl (hb hby at_122) rfl (teq hc26).2 ?_
        refine XS.iload X20.here hx rfl (hb hby at_125) rfl ?_
        refine XS.iconst X20.here hx rfl (hb hby at_127) ?_
        refine XS.ixor X20.here hx rfl (hb hby at_128) rfl ?_
        refine XS.istore X20.here hx rfl (hb hby at_129) rfl (l' := #[vJ q1, .second, vJ q2, .second, vJ q3, .second, vI p4, vI p5, vI x_, vI y_, vI z_, vI u_, vI v_, vI w_, vI v7, vI v10, vI v13, vI v16, vI v19, vI (x_ ^^^ (1 : Int32)), .unset, .unset, .unset, .unset, .unset, .unset, .unset, .unset]) rfl ?_
        refine XS.iload X20.here hx rfl (hb hby at_131) rfl ?_
        show SA T20 m 133 #[vJ q1, .second, vJ q2, .second, vJ q3, .second, vI p4, vI p5, vI x_, vI y_, vI z_, vI u_, vI v_, vI w_, vI v7, vI v10, vI v13, vI v16, vI v19, vI (x_ ^^^ (1 : Int32)), .unset, .unset, .unset, .unset, .unset, .unset, .unset, .unset] [iI v13]
        refine XS.istore X20.here hx rfl (hb hby at_133) rfl (l' := #[vJ q1, .second, vJ q2, .second, vJ q3, .second, vI p4, vI p5, vI x_, vI y_, vI z_, vI u_, vI v_, vI w_, vI v7, vI v10, vI v13, vI v16, vI v19, vI (x_ ^^^ (1 : Int32)), vI v13, .unset, .unset, .unset, .unset, .unset, .unset, .unset]) rfl ?_
        refine XS.goto X20.here hx rfl (pc0 := 135) (pc' := 178) rfl (hb hby at_135) (by decide) (by decide) ?_
        exact kt
      · obtain ⟨v28, hv28⟩ : ∃ z : Int32, z = (if v7 = (0 : Int32) then (1 : Int32) else (0 : Int32)) := ⟨_, rfl⟩
        obtain ⟨T29, X29, e29, st29⟩ : own_Mid X20 h0 (mkF m 147 #[vJ q1, .second, vJ q2, .second, vJ q3, .second, vI p4, vI p5, vI x_, vI y_, vI z_, vI u_, vI v_, vI w_, vI v7, vI v10, vI v13, vI v16, vI v19, vI z_, .unset, .unset, .unset, .unset, .unset, .unset, .unset, .unset] [iI v7]) (mkF m 155 #[vJ q1, .second, vJ q2, .second, vJ q3, .second, vI p4, vI p5, vI x_, vI y_, vI z_, vI u_, vI v_, vI w_, vI v7, vI v10, vI v13, vI v16, vI v19, vI z_, .unset, .unset, .unset, .unset, .unset, .unset, .unset, .unset] [iI v28]) := by
          by_cases hc30 : v7 = (0 : Int32)
          · refine ⟨T20, X20, e20, fun t kt => ?_⟩
            subst hv28
            simp only [if_pos hc30] at kt
            refine XS.ifNo X20.here hx rfl (hb hby at_147) rfl ((if0 _ _).trans (teq hc30).2) ?_
            refine XS.iconst X20.here hx rfl (hb hby at_150) ?_
            refine XS.goto X20.here hx rfl (pc0 := 151) (pc' := 155) rfl (hb hby at_151) (by decide) (by decide) ?_
            exact kt
          · refine ⟨T20, X20, e20, fun t kt => ?_⟩
            subst hv28
            simp only [if_neg hc30] at kt
            refine XS.ifYes X20.here hx rfl (pc0 := 147) (pc' := 154) rfl (hb hby at_147) rfl ((if0 _ _).trans (feq hc30).2) (by decide) (by decide) ?_
            refine XS.iconst X20.here hx rfl (hb hby at_154) ?_
            exact kt
        refine ⟨T29, X29, e29, fun t kt => ?_⟩
        subst hv22 hv23
        simp only [if_pos hc25, if_neg hc26] at kt
        refine pre27 t ?_
        refine XS.icmpYes X20.here hx rfl (pc0 := 122) (pc' := 138) rfl (hb hby at_122) rfl (feq hc26).2 (by decide) (by decide) ?_
        refine XS.iload X20.here hx rfl (hb hby at_138) rfl ?_
        refine XS.iload X20.here hx rfl (hb hby at_140) rfl ?_
        refine XS.icmpNo X20.here hx rfl (hb hby at_142) rfl (teq hc25).2 ?_
        refine XS.iload X20.here hx rfl (hb hby at_145) rfl ?_
        refine st29 _ ?_
        refine XS.istore X29.here hx rfl (hb hby at_155) rfl (l' := #[vJ q1, .second, vJ q2, .second, vJ q3, .second, vI p4, vI p5, vI x_, vI y_, vI z_, vI u_, vI v_, vI w_, vI v7, vI v10, vI v13, vI v16, vI v19, vI z_, vI v28, .unset, .unset, .unset, .unset, .unset, .unset, .unset]) rfl ?_
        refine XS.goto X29.here hx rfl (pc0 := 157) (pc' := 178) rfl (hb hby at_157) (by decide) (by decide) ?_
        subst hv28
        exact kt
    · have pre32 : ∀ t, Steps p.tables e below (T20.setTop (mkF m 164 #[vJ q1, .second, vJ q2, .second, vJ q3, .second, vI p4, vI p5, vI x_, vI y_, vI z_, vI u_, vI v_, vI w_, vI v7, vI v10, vI v13, vI v16, vI v19, vI z_, .unset, .unset, .unset, .unset, .unset, .unset, .unset, .unset] [iI y_, iI z_])) t → Steps p.tables e below (T20.setTop (mkF m 115 #[vJ q1, .second, vJ q2, .second, vJ q3, .second, vI p4, vI p5, vI x_, vI y_, vI z_, vI u_, vI v_, vI w_, vI v7, vI v10, vI v13, vI v16, vI v19, vI z_, .unset, .unset, .unset, .unset, .unset, .unset, .unset, .unset] [iI x_, iI z_])) t := by
        intro t kt
        refine XS.icmpYes X20.here hx rfl (pc0 := 115) (pc' := 138) rfl (hb hby at_115) rfl (feq hc25).2 (by decide) (by decide) ?_
        refine XS.iload X20.here hx rfl (hb hby at_138) rfl ?_
        refine XS.iload X20.here hx rfl (hb hby at_140) rfl ?_
        refine XS.icmpYes X20.here hx rfl (pc0 := 142) (pc' := 160) rfl (hb hby at_142) rfl (feq hc25).2 (by decide) (by decide) ?_
        refine XS.iload X20.here hx rfl (hb hby at_160) rfl ?_
        refine XS.iload X20.here hx rfl (hb hby at_162) rfl ?_
        exact kt
      by_cases hc31 : z_ = y_
      · refine ⟨T20, X20, e20, fun t kt => ?_⟩
        subst hv22 hv23
        simp only [if_neg hc25, if_pos hc31] at kt
        refine pre32 t ?_
        refine XS.icmpNo X20.here hx rfl (hb hby at_164) rfl (teq hc31).2 ?_
        refine XS.iload X20.here hx rfl (hb hby at_167) rfl ?_
        refine XS.istore X20.here hx rfl (hb hby at_169) rfl (l' := #[vJ q1, .second, vJ q2, .second, vJ q3, .second, vI p4, vI p5, vI x_, vI y_, vI z_, vI u_, vI v_, vI w_, vI v7, vI v10, vI v13, vI v16, vI v19, vI z_, vI v7, .unset, .unset, .unset, .unset, .unset, .unset, .unset]) rfl ?_
        refine XS.goto X20.here hx rfl (pc0 := 171) (pc' := 178) rfl (hb hby at_171) (by decide) (by decide) ?_
        exact kt
      · refine ⟨T20, X20, e20, fun t kt => ?_⟩
        subst hv22 hv23
        simp only [if_neg hc25, if_neg hc31] at kt
        refine pre32 t ?_
        refine XS.icmpYes X20.here hx rfl (pc0 := 164) (pc' := 174) rfl (hb hby at_164) rfl (feq hc31).2 (by decide) (by decide) ?_
        refine XS.iload X20.here hx rfl (hb hby at_174) rfl ?_
        refine XS.istore X20.here hx rfl (hb hby at_176) rfl (l' := #[vJ q1, .second, vJ q2, .second, vJ q3, .second, vI p4, vI p5, vI x_, vI y_, vI z_, vI u_, vI v_, vI w_, vI v7, vI v10, vI v13, vI v16, vI v19, vI z_, vI v13, .unset, .unset, .unset, .unset, .unset, .unset, .unset]) rfl ?_
        exact kt
  obtain ⟨v33, hv33⟩ : ∃ z : Int32, z = (if w_ = v_ then (if v16 = (0 : Int32) then (1 : Int32) else (0 : Int32)) else v19) := ⟨_, rfl⟩
  obtain ⟨T34, X34, e34, st34⟩ : own_Mid X24 h0 (mkF m 182 #[vJ q1, .second, vJ q2, .second, vJ q3, .second, vI p4, vI p5, vI x_, vI y_, vI z_, vI u_, vI v_, vI w_, vI v7, vI v10, vI v13, vI v16, vI v19, vI v22, vI v23, .unset, .unset, .unset, .unset, .unset, .unset, .unset] [iI v_, iI w_]) (mkF m 200 #[vJ q1, .second, vJ q2, .second, vJ q3, .second, vI p4, vI p5, vI x_, vI y_, vI z_, vI u_, vI v_, vI w_, vI v7, vI v10, vI v13, vI v16, vI v19, vI v22, vI v23, .unset, .unset, .unset, .unset, .unset, .unset, .unset] [iI v33]) := by
    by_cases hc35 : w_ = v_
    · have pre37 : ∀ t, Steps p.tables e below (T24.setTop (mkF m 187 #[vJ q1, .second, vJ q2, .second, vJ q3, .second, vI p4, vI p5, vI x_, vI y_, vI z_, vI u_, vI v_, vI w_, vI v7, vI v10, vI v13, vI v16, vI v19, vI v22, vI v23, .unset, .unset, .unset, .unset, .unset, .unset, .unset] [iI v16])) t → Steps p.tables e below (T24.setTop (mkF m 182 #[vJ q1, .second, vJ q2, .second, vJ q3, .second, vI p4, vI p5, vI x_, vI y_, vI z_, vI u_, vI v_, vI w_, vI v7, vI v10, vI v13, vI v16, vI v19, vI v22, vI v23, .unset, .unset, .unset, .unset, .unset, .unset, .unset] [iI v_, iI w_])) t := by
        intro t kt
        refine XS.icmpNo X24.here hx rfl (hb hby at_182) rfl (teq hc35).2 ?_
        refine XS.iload X24.here hx rfl (hb hby at_185) rfl ?_
        exact kt
      by_cases hc36 : v16 = (0 : Int32)
      · refine ⟨T24, X24, e24, fun t kt => ?_⟩
        subst hv33
        simp only [if_pos hc35, if_pos hc36] at kt
        refine pre37 t ?_
        refine XS.ifNo X24.here hx rfl (hb hby at_187) rfl ((if0 _ _).trans (teq hc36).2) ?_
        refine XS.iconst X24.here hx rfl (hb hby at_190) ?_
        refine XS.goto X24.here hx rfl (pc0 := 191) (pc' := 200) rfl (hb hby at_191) (by decide) (by decide) ?_
        exact kt
      · refine ⟨T24, X24, e24, fun t kt => ?_⟩
        subst hv33
        simp only [if_pos hc35, if_neg hc36] at kt
        refine pre37 t ?_
        refine XS.ifYes X24.here hx rfl (pc0 := 187) (pc' := 194) rfl (hb hby at_187) rfl ((if0 _ _).trans (feq hc36).2) (by decide) (by decide) ?_
        refine XS.iconst X24.here hx rfl (hb hby at_194) ?_
        refine XS.goto X24.here hx rfl (pc0 := 195) (pc' := 200) rfl (hb hby at_195) (by decide) (by decide) ?_
        exact kt
    · refine ⟨T24, X24, e24, fun t kt => ?_⟩
      subst hv33
      simp only [if_neg hc35] at kt
      refine XS.icmpYes X24.here hx rfl (pc0 := 182) (pc' := 198) rfl (hb hby at_182) rfl (feq hc35).2 (by decide) (by decide) ?_
      refine XS.iload X24.here hx rfl (hb hby at_198) rfl ?_
      exact kt
  have b14 := own_b01 hv7
  have b15 := own_b01 hv10
  have b16 := own_b01 hv13
  have b17 := own_b01 hv16
  have b18 := own_b01 hv19
  obtain ⟨hcf, hf6, k12, k14, k24, k56⟩ := own_keys b14 b16 b17 b18 hv22 hv23 hv33
  obtain ⟨K, hK1, hK7, hKe⟩ := own_k7 p5
  obtain ⟨kk_, hkk_⟩ : ∃ z : Int32, z = ((1 : Int32) + ((p5 &&& (2147483647 : Int32)) % (7 : Int32))) := ⟨_, rfl⟩
  obtain ⟨T39, h39, X39, e39, E39, A39, D39, -, st39⟩ := newO X34 hx hZ hown (ww hw 1 rfl) (ww hw 2 rfl) (ww hw 3 rfl) e34 (g := (mkF m 214 #[vJ q1, .second, vJ q2, .second, vJ q3, .second, vI p4, vI p5, vI x_, vI y_, vI z_, vI u_, vI v_, vI w_, vI v7, vI v10, vI v13, vI v16, vI v19, vI v22, vI v23, vI v33, vI kk_, .unset, .unset, .unset, .unset, .unset] [])) rfl (hb hby at_214) (by decide) (by decide)
  obtain ⟨b39, g39⟩ : ∃ z, z = h0.size := ⟨_, rfl⟩
  rw [← g39] at A39 D39 st39
  have sz_b39 : h0.size ≤ b39 := Nat.le_trans K0.1 (Nat.le_of_eq g39.symm)
  have g_b39 : n0 ≤ b39 := Nat.le_trans Z0 sz_b39
  have K39 : Keep h0 h39 [] := K0.ext E39
  have F_size_b39 : Fld Z h39 b39 "com/example/tidemine/tidemine/PatternTrie" "size" "I" (.int (0 : Int32)) := D39 (Or.inl (ww hw 11 rfl)) (ty := .int) (by decide)
  have F_items_b39 : Fld Z h39 b39 "com/example/tidemine/tidemine/PatternTrie" "items" "[I" .null := D39 (Or.inl (ww hw 14 rfl)) (ty := (.array .int)) (by decide)
  have F_sameEvents_b39 : Fld Z h39 b39 "com/example/tidemine/tidemine/PatternTrie" "sameEvents" "[Z" .null := D39 (Or.inl (ww hw 17 rfl)) (ty := (.array .boolean)) (by decide)
  have F_parents_b39 : Fld Z h39 b39 "com/example/tidemine/tidemine/PatternTrie" "parents" "[I" .null := D39 (Or.inl (ww hw 19 rfl)) (ty := (.array .int)) (by decide)
  have F_children_b39 : Fld Z h39 b39 "com/example/tidemine/tidemine/PatternTrie" "children" "[[I" .null := D39 (Or.inl (ww hw 23 rfl)) (ty := (.array (.array .int))) (by decide)
  have F_childCounts_b39 : Fld Z h39 b39 "com/example/tidemine/tidemine/PatternTrie" "childCounts" "[I" .null := D39 (Or.inl (ww hw 25 rfl)) (ty := (.array .int)) (by decide)
  obtain ⟨_, _, ⟨T40, L40, k40, n40⟩, -, X40, ⟨Lc40, hQ40, l40, y40, z40⟩, st40⟩ := X39.specialBack hx (y := mn_5) rfl hown (mvT hZ (ww hw 4 rfl)) (mvT hZ (ww hw 5 rfl)) (mvT hZ (ww hw 6 rfl)) (by decide) (backOf (W := 1) (rm1 l Z a0 hw [] b39 h39 n0 (Nat.le_trans Z0 K39.1) A39 g_b39 F_size_b39 F_items_b39 F_sameEvents_b39 F_parents_b39 F_children_b39 F_childCounts_b39) hZ (ww hw 6 rfl) (ww hw 3 rfl) (by decide) (by decide)) (g := (mkF m 218 #[vJ q1, .second, vJ q2, .second, vJ q3, .second, vI p4, vI p5, vI x_, vI y_, vI z_, vI u_, vI v_, vI w_, vI v7, vI v10, vI v13, vI v16, vI v19, vI v22, vI v23, vI v33, vI kk_, .unset, .unset, .unset, .unset, .unset] [iR b39, iR b39])) rfl (by rw [hml]; rfl) (Steps.refl _) (a := b39) (argsL := []) (rest := [(.ref b39)]) (lenOf pd_3 rfl) rfl (wz rfl) (hb hby at_218) (fun _ _ => ⟨rfl, e39, (by decide : 1 + 5 ≤ _), (by decide : 9 + 80 ≤ _)⟩)
  dsimp only [Pt.U, Pt.locs, Pt.cells, Pt.slots] at X40 l40 y40 z40 st40 hQ40
  subst l40 y40 z40
  obtain ⟨bi, bf, bp, bc, bn, ki, kf, kp, kc, kn, rfl, N40q, hz40, sg, sn, ov, sa⟩ := hQ40
  have N40 := Fr.app N0 N40q
  have K40 : h0.size ≤ T40.heap.size ∧ True := ⟨Nat.le_trans K39.1 hz40, trivial⟩
  have ST40 := sa [0, x_, y_, u_, v22, v_, w_] [0, v7, (if v7 = (0 : Int32) then (1 : Int32) else (0 : Int32)), v10, v23, v16, v33]
  have CX : own_Cx Z n0 b39 bi bf bp bc bn kc [0, x_, y_, u_, v22, v_, w_] [0, v7, (if v7 = (0 : Int32) then (1 : Int32) else (0 : Int32)), v10, v23, v16, v33] := ⟨sg, sn, ov, own_flags b14 (own_nb b14).1 b15 hcf b17 hf6, by rw [own_kp1, own_kp2]; exact k12, by rw [own_kp1, own_kp4]; exact k14, by rw [own_kp2, own_kp4]; exact k24, by rw [own_kp5, own_kp6]; exact k56⟩
  have hKk : kk_ = Int32.ofNat K := hkk_.trans hKe
  obtain ⟨_, _, ⟨T41, L41, k41, n41⟩, -, X41, ⟨Lc41, hQ41, l41, y41, z41⟩, st41⟩ := Jvm.LawKit.callS X40 hx (y := mn_7) hown (mvT hZ (ww hw 26 rfl)) (mvT hZ (ww hw 27 rfl)) (mvT hZ (ww hw 28 rfl)) (mvT hZ (ww hw 29 rfl)) (by decide) (backOf (W := 0) (rm3 l Z a0 hw [] b39 x_ y_ u_ v22 v23 v_ w_ v7 v10 v16 v33 bi bf bp bc bn ki kf kp kc kn [0, x_, y_, u_, v22, v_, w_] [0, v7, (if v7 = (0 : Int32) then (1 : Int32) else (0 : Int32)), v10, v23, v16, v33] 1 T40.heap n0 (Nat.le_trans Z0 K40.1) CX ST40 (by decide) (by decide) rfl rfl rfl rfl rfl rfl rfl rfl rfl rfl rfl rfl) hZ (ww hw 29 rfl) (ww hw 28 rfl) (by decide) (by decide)) (g := (mkF m 247 #[vJ q1, .second, vJ q2, .second, vJ q3, .second, vI p4, vI p5, vI x_, vI y_, vI z_, vI u_, vI v_, vI w_, vI v7, vI v10, vI v13, vI v16, vI v19, vI v22, vI v23, vI v33, vI kk_, vR b39, .unset, .unset, .unset, .unset] [iI v33, iI v16, iI v10, iI v7, iI w_, iI v_, iI v23, iI v22, iI u_, iI y_, iI x_, iR b39])) rfl (by rw [hml]; rfl) (argsL := [(.ref b39), (.int x_), (.int y_), (.int u_), (.int v22), (.int v23), (.int v_), (.int w_), (.int v7), (.int v10), (.int v16), (.int v33)]) (rest := []) (lenOf pd_4 rfl) rfl (wz rfl) (hb hby at_247) (fun _ _ => ⟨rfl, rfl, (by decide : 6 + 6 ≤ _), (by decide : 89 + 24 ≤ _)⟩)
  dsimp only [Pt.U, Pt.locs, Pt.cells, Pt.slots] at X41 l41 y41 z41 st41 hQ41
  subst l41 y41 z41
  obtain ⟨rfl, N41q, hz41, ST41⟩ := hQ41
  have N41 := Fr.app N40 N41q
  have K41 : h0.size ≤ T41.heap.size ∧ True := ⟨Nat.le_trans K40.1 hz41, trivial⟩
  obtain ⟨cq42, kq42, q42a, q42b, q42c⟩ := isOf hZ rfl (own_StE ST41).1
  obtain ⟨_, _, ⟨T42, L42, k42, n42⟩, -, X42, ⟨Lc42, hQ42, l42, y42, z42⟩, st42⟩ := X41.virtualBack hx (y := mn_4) (z := mn_4) hown (mvT hZ (ww hw 48 rfl)) (mvT hZ (ww hw 49 rfl)) (notFace_of_selects (args := #[]) (mvT hZ (ww hw 51 rfl))) (mvT hZ (ww hw 51 rfl)) (mvT hZ (ww hw 50 rfl)) (by decide) (backOf (W := 0) (rm7_U l Z a0 hw [] b39 kk_ bi bf bp bc bn ki kf kp kc kn [0, x_, y_, u_, v22, v_, w_] [0, v7, (if v7 = (0 : Int32) then (1 : Int32) else (0 : Int32)), v10, v23, v16, v33] K T41.heap n0 (Nat.le_trans Z0 K41.1) CX ST41 hKk hK1 hK7) hZ (ww hw 52 rfl) (ww hw 3 rfl) (by decide) (by decide)) q42a q42c (g := (mkF m 256 #[vJ q1, .second, vJ q2, .second, vJ q3, .second, vI p4, vI p5, vI x_, vI y_, vI z_, vI u_, vI v_, vI w_, vI v7, vI v10, vI v13, vI v16, vI v19, vI v22, vI v23, vI v33, vI kk_, vR b39, vI 1, .unset, .unset, .unset] [iI kk_, iR b39])) rfl (by rw [hml]; rfl) (Steps.refl _) (argsL := [(.int kk_)]) (rest := []) (lenOf pd_5 rfl) rfl (wz rfl) (hb hby at_256) (fun _ _ => ⟨rfl, rfl, (by decide : 12 + 0 ≤ _), (by decide : 113 + 0 ≤ _)⟩)
  dsimp only [Pt.U, Pt.locs, Pt.cells, Pt.slots] at X42 l42 y42 z42 st42 hQ42
  subst l42 y42 z42
  obtain ⟨rfl, N42q, hz42, ST42⟩ := hQ42
  have N42 := Fr.app N41 N42q
  have K42 : h0.size ≤ T42.heap.size ∧ True := ⟨Nat.le_trans K41.1 hz42, trivial⟩
  have Fz42 := (own_StE ST42).2
  rw [← hKk] at Fz42
  obtain ⟨cq43, kq43, q43a, q43b, q43c⟩ := isOf hZ rfl (own_StE ST42).1
  obtain ⟨_, _, ⟨T43, L43, k43, n43⟩, -, X43, ⟨Lc43, hQ43, l43, y43, z43⟩, st43⟩ := X42.virtualBack hx (y := mn_6) (z := mn_6) hown (mvT hZ (ww hw 53 rfl)) (mvT hZ (ww hw 54 rfl)) (notFace_of_selects (args := #[]) (mvT hZ (ww hw 56 rfl))) (mvT hZ (ww hw 56 rfl)) (mvT hZ (ww hw 55 rfl)) (by decide) (backOf (W := 0) (rm8 l Z a0 hw [] b39 kk_ T42.heap Fz42) hZ (ww hw 57 rfl) (ww hw 3 rfl) (by decide) (by decide)) q43a q43c (g := (mkF m 261 #[vJ q1, .second, vJ q2, .second, vJ q3, .second, vI p4, vI p5, vI x_, vI y_, vI z_, vI u_, vI v_, vI w_, vI v7, vI v10, vI v13, vI v16, vI v19, vI v22, vI v23, vI v33, vI kk_, vR b39, vI 1, .unset, .unset, .unset] [iR b39])) rfl (by rw [hml]; rfl) (Steps.refl _) (argsL := []) (rest := []) (lenOf pd_6 rfl) rfl (wz rfl) (hb hby at_261) (fun _ _ => ⟨rfl, rfl, (by decide : 12 + 0 ≤ _), (by decide : 113 + 0 ≤ _)⟩)
  dsimp only [Pt.U, Pt.locs, Pt.cells, Pt.slots] at X43 l43 y43 z43 st43 hQ43
  subst l43 y43 z43
  obtain ⟨rfl, rfl, e43⟩ := hQ43
  try rw [List.append_nil] at X43
  obtain ⟨_, _, ⟨T44, L44, k44, n44⟩, -, X44, ⟨Lc44, hQ44, l44, y44, z44⟩, st44⟩ := Jvm.LawKit.callS X43 hx (y := mn_7) hown (mvT hZ (ww hw 26 rfl)) (mvT hZ (ww hw 27 rfl)) (mvT hZ (ww hw 28 rfl)) (mvT hZ (ww hw 29 rfl)) (by decide) (backOf (W := 0) (rm3 l Z a0 hw [] b39 x_ y_ u_ v22 v23 v_ w_ v7 v10 v16 v33 bi bf bp bc bn ki kf kp kc kn [0, x_, y_, u_, v22, v_, w_] [0, v7, (if v7 = (0 : Int32) then (1 : Int32) else (0 : Int32)), v10, v23, v16, v33] K T42.heap n0 (Nat.le_trans Z0 K42.1) CX ST42 hK1 hK7 rfl rfl rfl rfl rfl rfl rfl rfl rfl rfl rfl rfl) hZ (ww hw 29 rfl) (ww hw 28 rfl) (by decide) (by decide)) (g := (mkF m 300 #[vJ q1, .second, vJ q2, .second, vJ q3, .second, vI p4, vI p5, vI x_, vI y_, vI z_, vI u_, vI v_, vI w_, vI v7, vI v10, vI v13, vI v16, vI v19, vI v22, vI v23, vI v33, vI kk_, vR b39, vI 1, vI 1, .unset, .unset] [iI v33, iI v16, iI v10, iI v7, iI w_, iI v_, iI v23, iI v22, iI u_, iI y_, iI x_, iR b39])) rfl (by rw [hml]; rfl) (argsL := [(.ref b39), (.int x_), (.int y_), (.int u_), (.int v22), (.int v23), (.int v_), (.int w_), (.int v7), (.int v10), (.int v16), (.int v33)]) (rest := []) (lenOf pd_4 rfl) rfl (wz rfl) (hb hby at_300) (fun _ _ => ⟨rfl, e43, (by decide : 12 + 6 ≤ _), (by decide : 113 + 24 ≤ _)⟩)
  dsimp only [Pt.U, Pt.locs, Pt.cells, Pt.slots] at X44 l44 y44 z44 st44 hQ44
  subst l44 y44 z44
  obtain ⟨rfl, N44q, hz44, ST44⟩ := hQ44
  have N44 := Fr.app N42 N44q
  have K44 : h0.size ≤ T44.heap.size ∧ True := ⟨Nat.le_trans K42.1 hz44, trivial⟩
  obtain ⟨cq45, kq45, q45a, q45b, q45c⟩ := isOf hZ rfl (own_StE ST44).1
  obtain ⟨_, _, ⟨T45, L45, k45, n45⟩, -, X45, ⟨Lc45, hQ45, l45, y45, z45⟩, st45⟩ := X44.virtualBack hx (y := mn_6) (z := mn_6) hown (mvT hZ (ww hw 53 rfl)) (mvT hZ (ww hw 54 rfl)) (notFace_of_selects (args := #[]) (mvT hZ (ww hw 56 rfl))) (mvT hZ (ww hw 56 rfl)) (mvT hZ (ww hw 55 rfl)) (by decide) (backOf (W := 0) (rm8 l Z a0 hw [] b39 (7 : Int32) T44.heap (own_StE ST44).2) hZ (ww hw 57 rfl) (ww hw 3 rfl) (by decide) (by decide)) q45a q45c (g := (mkF m 307 #[vJ q1, .second, vJ q2, .second, vJ q3, .second, vI p4, vI p5, vI x_, vI y_, vI z_, vI u_, vI v_, vI w_, vI v7, vI v10, vI v13, vI v16, vI v19, vI v22, vI v23, vI v33, vI kk_, vR b39, vI 1, vI 1, vI 1, .unset] [iR b39])) rfl (by rw [hml]; rfl) (Steps.refl _) (argsL := []) (rest := []) (lenOf pd_6 rfl) rfl (wz rfl) (hb hby at_307) (fun _ _ => ⟨rfl, rfl, (by decide : 18 + 0 ≤ _), (by decide : 137 + 0 ≤ _)⟩)
  dsimp only [Pt.U, Pt.locs, Pt.cells, Pt.slots] at X45 l45 y45 z45 st45 hQ45
  subst l45 y45 z45
  obtain ⟨rfl, rfl, e45⟩ := hQ45
  try rw [List.append_nil] at X45
  obtain ⟨fs, hr, hrun, hended, hW, hsame⟩ := X45.leave (v := some (.int (1 : Int32))) (fun h => by rw [Bd.returns] at h; cases h)
  refine ⟨_, _, pre0 _ ?_, hrun, hended, _, _, rfl, ?_, ⟨_, rfl⟩, hW, hsame.mono (by decide) (by decide)⟩
  · refine XS.lloadN X0.here hx rfl (hb hby at_0) rfl ?_
    refine XS.l2i X0.here hx rfl (hb hby at_1) rfl ?_
    refine XS.istore X0.here hx rfl (hb hby at_2) rfl (l' := #[vJ q1, .second, vJ q2, .second, vJ q3, .second, vI p4, vI p5, vI q1.toInt32, .unset, .unset, .unset, .unset, .unset, .unset, .unset, .unset, .unset, .unset, .unset, .unset, .unset, .unset, .unset, .unset, .unset, .unset, .unset]) rfl ?_
    refine XS.lloadN X0.here hx rfl (hb hby at_4) rfl ?_
    refine XS.bipush X0.here hx rfl (hb hby at_5) ?_
    refine XS.lushr X0.here hx rfl (hb hby at_7) rfl ?_
    show SA s₁ m 8 #[vJ q1, .second, vJ q2, .second, vJ q3, .second, vI p4, vI p5, vI q1.toInt32, .unset, .unset, .unset, .unset, .unset, .unset, .unset, .unset, .unset, .unset, .unset, .unset, .unset, .unset, .unset, .unset, .unset, .unset, .unset] [iJ ((q1.toUInt64 >>> ((32 : Int32) &&& 0x3f).toInt64.toUInt64).toInt64)]
    refine XS.l2i X0.here hx rfl (hb hby at_8) rfl ?_
    refine XS.istore X0.here hx rfl (hb hby at_9) rfl (l' := #[vJ q1, .second, vJ q2, .second, vJ q3, .second, vI p4, vI p5, vI q1.toInt32, vI ((q1.toUInt64 >>> ((32 : Int32) &&& 0x3f).toInt64.toUInt64).toInt64).toInt32, .unset, .unset, .unset, .unset, .unset, .unset, .unset, .unset, .unset, .unset, .unset, .unset, .unset, .unset, .unset, .unset, .unset, .unset]) rfl ?_
    refine XS.lloadN X0.here hx rfl (hb hby at_11) rfl ?_
    refine XS.l2i X0.here hx rfl (hb hby at_12) rfl ?_
    refine XS.istore X0.here hx rfl (hb hby at_13) rfl (l' := #[vJ q1, .second, vJ q2, .second, vJ q3, .second, vI p4, vI p5, vI q1.toInt32, vI ((q1.toUInt64 >>> ((32 : Int32) &&& 0x3f).toInt64.toUInt64).toInt64).toInt32, vI q2.toInt32, .unset, .unset, .unset, .unset, .unset, .unset, .unset, .unset, .unset, .unset, .unset, .unset, .unset, .unset, .unset, .unset, .unset]) rfl ?_
    refine XS.lloadN X0.here hx rfl (hb hby at_15) rfl ?_
    refine XS.bipush X0.here hx rfl (hb hby at_16) ?_
    refine XS.lushr X0.here hx rfl (hb hby at_18) rfl ?_
    show SA s₁ m 19 #[vJ q1, .second, vJ q2, .second, vJ q3, .second, vI p4, vI p5, vI q1.toInt32, vI ((q1.toUInt64 >>> ((32 : Int32) &&& 0x3f).toInt64.toUInt64).toInt64).toInt32, vI q2.toInt32, .unset, .unset, .unset, .unset, .unset, .unset, .unset, .unset, .unset, .unset, .unset, .unset, .unset, .unset, .unset, .unset, .unset] [iJ ((q2.toUInt64 >>> ((32 : Int32) &&& 0x3f).toInt64.toUInt64).toInt64)]
    refine XS.l2i X0.here hx rfl (hb hby at_19) rfl ?_
    refine XS.istore X0.here hx rfl (hb hby at_20) rfl (l' := #[vJ q1, .second, vJ q2, .second, vJ q3, .second, vI p4, vI p5, vI q1.toInt32, vI ((q1.toUInt64 >>> ((32 : Int32) &&& 0x3f).toInt64.toUInt64).toInt64).toInt32, vI q2.toInt32, vI ((q2.toUInt64 >>> ((32 : Int32) &&& 0x3f).toInt64.toUInt64).toInt64).toInt32, .unset, .unset, .unset, .unset, .unset, .unset, .unset, .unset, .unset, .unset, .unset, .unset, .unset, .unset, .unset, .unset]) rfl ?_
    refine XS.lload X0.here hx rfl (hb hby at_22) rfl ?_
    refine XS.l2i X0.here hx rfl (hb hby at_24) rfl ?_
    refine XS.istore X0.here hx rfl (hb hby at_25) rfl (l' := #[vJ q1, .second, vJ q2, .second, vJ q3, .second, vI p4, vI p5, vI q1.toInt32, vI ((q1.toUInt64 >>> ((32 : Int32) &&& 0x3f).toInt64.toUInt64).toInt64).toInt32, vI q2.toInt32, vI ((q2.toUInt64 >>> ((32 : Int32) &&& 0x3f).toInt64.toUInt64).toInt64).toInt32, vI q3.toInt32, .unset, .unset, .unset, .unset, .unset, .unset, .unset, .unset, .unset, .unset, .unset, .unset, .unset, .unset, .unset]) rfl ?_
    refine XS.lload X0.here hx rfl (hb hby at_27) rfl ?_
    refine XS.bipush X0.here hx rfl (hb hby at_29) ?_
    refine XS.lushr X0.here hx rfl (hb hby at_31) rfl ?_
    show SA s₁ m 32 #[vJ q1, .second, vJ q2, .second, vJ q3, .second, vI p4, vI p5, vI q1.toInt32, vI ((q1.toUInt64 >>> ((32 : Int32) &&& 0x3f).toInt64.toUInt64).toInt64).toInt32, vI q2.toInt32, vI ((q2.toUInt64 >>> ((32 : Int32) &&& 0x3f).toInt64.toUInt64).toInt64).toInt32, vI q3.toInt32, .unset, .unset, .unset, .unset, .unset, .unset, .unset, .unset, .unset, .unset, .unset, .unset, .unset, .unset, .unset] [iJ ((q3.toUInt64 >>> ((32 : Int32) &&& 0x3f).toInt64.toUInt64).toInt64)]
    refine XS.l2i X0.here hx rfl (hb hby at_32) rfl ?_
    refine XS.istore X0.here hx rfl (hb hby at_33) rfl (l' := #[vJ q1, .second, vJ q2, .second, vJ q3, .second, vI p4, vI p5, vI q1.toInt32, vI ((q1.toUInt64 >>> ((32 : Int32) &&& 0x3f).toInt64.toUInt64).toInt64).toInt32, vI q2.toInt32, vI ((q2.toUInt64 >>> ((32 : Int32) &&& 0x3f).toInt64.toUInt64).toInt64).toInt32, vI q3.toInt32, vI ((q3.toUInt64 >>> ((32 : Int32) &&& 0x3f).toInt64.toUInt64).toInt64).toInt32, .unset, .unset, .unset, .unset, .unset, .unset, .unset, .unset, .unset, .unset, .unset, .unset, .unset, .unset]) rfl ?_
    rw [← hx_]
    rw [← hy_]
    rw [← hz_]
    rw [← hu_]
    rw [← hv_]
    rw [← hw_]
    refine XS.iload X0.here hx rfl (hb hby at_35) rfl ?_
    refine XS.iconst X0.here hx rfl (hb hby at_37) ?_
    refine XS.iand X0.here hx rfl (hb hby at_38) rfl ?_
    refine st8 _ ?_
    refine XS.istore X8.here hx rfl (hb hby at_47) rfl (l' := #[vJ q1, .second, vJ q2, .second, vJ q3, .second, vI p4, vI p5, vI x_, vI y_, vI z_, vI u_, vI v_, vI w_, vI v7, .unset, .unset, .unset, .unset, .unset, .unset, .unset, .unset, .unset, .unset, .unset, .unset, .unset]) rfl ?_
    refine XS.iload X8.here hx rfl (hb hby at_49) rfl ?_
    refine XS.iconst X8.here hx rfl (hb hby at_51) ?_
    refine XS.iand X8.here hx rfl (hb hby at_52) rfl ?_
    refine st11 _ ?_
    refine XS.istore X11.here hx rfl (hb hby at_61) rfl (l' := #[vJ q1, .second, vJ q2, .second, vJ q3, .second, vI p4, vI p5, vI x_, vI y_, vI z_, vI u_, vI v_, vI w_, vI v7, vI v10, .unset, .unset, .unset, .unset, .unset, .unset, .unset, .unset, .unset, .unset, .unset, .unset]) rfl ?_
    refine XS.iload X11.here hx rfl (hb hby at_63) rfl ?_
    refine XS.iconst X11.here hx rfl (hb hby at_65) ?_
    refine XS.iand X11.here hx rfl (hb hby at_66) rfl ?_
    refine st14 _ ?_
    refine XS.istore X14.here hx rfl (hb hby at_75) rfl (l' := #[vJ q1, .second, vJ q2, .second, vJ q3, .second, vI p4, vI p5, vI x_, vI y_, vI z_, vI u_, vI v_, vI w_, vI v7, vI v10, vI v13, .unset, .unset, .unset, .unset, .unset, .unset, .unset, .unset, .unset, .unset, .unset]) rfl ?_
    refine XS.iload X14.here hx rfl (hb hby at_77) rfl ?_
    refine XS.bipush X14.here hx rfl (hb hby at_79) ?_
    refine XS.iand X14.here hx rfl (hb hby at_81) rfl ?_
    refine st17 _ ?_
    refine XS.istore X17.here hx rfl (hb hby at_90) rfl (l' := #[vJ q1, .second, vJ q2, .second, vJ q3, .second, vI p4, vI p5, vI x_, vI y_, vI z_, vI u_, vI v_, vI w_, vI v7, vI v10, vI v13, vI v16, .unset, .unset, .unset, .unset, .unset, .unset, .unset, .unset, .unset, .unset]) rfl ?_
    refine XS.iload X17.here hx rfl (hb hby at_92) rfl ?_
    refine XS.bipush X17.here hx rfl (hb hby at_94) ?_
    refine XS.iand X17.here hx rfl (hb hby at_96) rfl ?_
    refine st20 _ ?_
    refine XS.istore X20.here hx rfl (hb hby at_105) rfl (l' := #[vJ q1, .second, vJ q2, .second, vJ q3, .second, vI p4, vI p5, vI x_, vI y_, vI z_, vI u_, vI v_, vI w_, vI v7, vI v10, vI v13, vI v16, vI v19, .unset, .unset, .unset, .unset, .unset, .unset, .unset, .unset, .unset]) rfl ?_
    refine XS.iload X20.here hx rfl (hb hby at_107) rfl ?_
    refine XS.istore X20.here hx rfl (hb hby at_109) rfl (l' := #[vJ q1, .second, vJ q2, .second, vJ q3, .second, vI p4, vI p5, vI x_, vI y_, vI z_, vI u_, vI v_, vI w_, vI v7, vI v10, vI v13, vI v16, vI v19, vI z_, .unset, .unset, .unset, .unset, .unset, .unset, .unset, .unset]) rfl ?_
    refine XS.iload X20.here hx rfl (hb hby at_111) rfl ?_
    refine XS.iload X20.here hx rfl (hb hby at_113) rfl ?_
    refine st24 _ ?_
    refine XS.iload X24.here hx rfl (hb hby at_178) rfl ?_
    refine XS.iload X24.here hx rfl (hb hby at_180) rfl ?_
    refine st34 _ ?_
    refine XS.istore X34.here hx rfl (hb hby at_200) rfl (l' := #[vJ q1, .second, vJ q2, .second, vJ q3, .second, vI p4, vI p5, vI x_, vI y_, vI z_, vI u_, vI v_, vI w_, vI v7, vI v10, vI v13, vI v16, vI v19, vI v22, vI v23, vI v33, .unset, .unset, .unset, .unset, .unset, .unset]) rfl ?_
    refine XS.iconst X34.here hx rfl (hb hby at_202) ?_
    refine XS.iload X34.here hx rfl (hb hby at_203) rfl ?_
    refine X34.ldcInt hx hown (mvT hZ (ww hw 0 rfl)) (g := (mkF m 205 #[vJ q1, .second, vJ q2, .second, vJ q3, .second, vI p4, vI p5, vI x_, vI y_, vI z_, vI u_, vI v_, vI w_, vI v7, vI v10, vI v13, vI v16, vI v19, vI v22, vI v23, vI v33, .unset, .unset, .unset, .unset, .unset, .unset] [iI p5, iI 1])) rfl (hb hby at_205) _ ?_
    refine XS.iand X34.here hx rfl (hb hby at_207) rfl ?_
    refine XS.bipush X34.here hx rfl (hb hby at_208) ?_
    refine iremM X34 hx rfl (hb hby at_210) rfl (by decide) ?_
    refine XS.iadd X34.here hx rfl (hb hby at_211) rfl ?_
    refine XS.istore X34.here hx rfl (hb hby at_212) rfl (l' := #[vJ q1, .second, vJ q2, .second, vJ q3, .second, vI p4, vI p5, vI x_, vI y_, vI z_, vI u_, vI v_, vI w_, vI v7, vI v10, vI v13, vI v16, vI v19, vI v22, vI v23, vI v33, vI ((1 : Int32) + ((p5 &&& (2147483647 : Int32)) % (7 : Int32))), .unset, .unset, .unset, .unset, .unset]) rfl ?_
    rw [← hkk_]
    refine st39 _ ?_
    refine XS.dup X39.here hx rfl (hb hby at_217) rfl rfl ?_
    refine st40.trans ?_
    refine XS.astore X40.here hx rfl (hb hby at_221) rfl rfl (l' := #[vJ q1, .second, vJ q2, .second, vJ q3, .second, vI p4, vI p5, vI x_, vI y_, vI z_, vI u_, vI v_, vI w_, vI v7, vI v10, vI v13, vI v16, vI v19, vI v22, vI v23, vI v33, vI kk_, vR b39, .unset, .unset, .unset, .unset]) rfl ?_
    refine XS.aload X40.here hx rfl (hb hby at_223) rfl rfl ?_
    refine XS.iload X40.here hx rfl (hb hby at_225) rfl ?_
    refine XS.iload X40.here hx rfl (hb hby at_227) rfl ?_
    refine XS.iload X40.here hx rfl (hb hby at_229) rfl ?_
    refine XS.iload X40.here hx rfl (hb hby at_231) rfl ?_
    refine XS.iload X40.here hx rfl (hb hby at_233) rfl ?_
    refine XS.iload X40.here hx rfl (hb hby at_235) rfl ?_
    show SA T40 m 237 #[vJ q1, .second, vJ q2, .second, vJ q3, .second, vI p4, vI p5, vI x_, vI y_, vI z_, vI u_, vI v_, vI w_, vI v7, vI v10, vI v13, vI v16, vI v19, vI v22, vI v23, vI v33, vI kk_, vR b39, .unset, .unset, .unset, .unset] [iI v_, iI v23, iI v22, iI u_, iI y_, iI x_, iR b39]
    refine XS.iload X40.here hx rfl (hb hby at_237) rfl ?_
    refine XS.iload X40.here hx rfl (hb hby at_239) rfl ?_
    refine XS.iload X40.here hx rfl (hb hby at_241) rfl ?_
    refine XS.iload X40.here hx rfl (hb hby at_243) rfl ?_
    refine XS.iload X40.here hx rfl (hb hby at_245) rfl ?_
    refine st41 _ ?_
    refine XS.istore X41.here hx rfl (hb hby at_250) rfl (l' := #[vJ q1, .second, vJ q2, .second, vJ q3, .second, vI p4, vI p5, vI x_, vI y_, vI z_, vI u_, vI v_, vI w_, vI v7, vI v10, vI v13, vI v16, vI v19, vI v22, vI v23, vI v33, vI kk_, vR b39, vI 1, .unset, .unset, .unset]) rfl ?_
    refine XS.aload X41.here hx rfl (hb hby at_252) rfl rfl ?_
    refine XS.iload X41.here hx rfl (hb hby at_254) rfl ?_
    refine st42.trans ?_
    refine XS.aload X42.here hx rfl (hb hby at_259) rfl rfl ?_
    refine st43.trans ?_
    refine XS.iload X43.here hx rfl (hb hby at_264) rfl ?_
    refine XS.icmpNo X43.here hx rfl (hb hby at_266) rfl (teq (rfl : kk_ = kk_)).2 ?_
    refine XS.iconst X43.here hx rfl (hb hby at_269) ?_
    refine XS.goto X43.here hx rfl (pc0 := 270) (pc' := 274) rfl (hb hby at_270) (by decide) (by decide) ?_
    refine XS.istore X43.here hx rfl (hb hby at_274) rfl (l' := #[vJ q1, .second, vJ q2, .second, vJ q3, .second, vI p4, vI p5, vI x_, vI y_, vI z_, vI u_, vI v_, vI w_, vI v7, vI v10, vI v13, vI v16, vI v19, vI v22, vI v23, vI v33, vI kk_, vR b39, vI 1, vI 1, .unset, .unset]) rfl ?_
    refine XS.aload X43.here hx rfl (hb hby at_276) rfl rfl ?_
    refine XS.iload X43.here hx rfl (hb hby at_278) rfl ?_
    refine XS.iload X43.here hx rfl (hb hby at_280) rfl ?_
    show SA T43 m 282 #[vJ q1, .second, vJ q2, .second, vJ q3, .second, vI p4, vI p5, vI x_, vI y_, vI z_, vI u_, vI v_, vI w_, vI v7, vI v10, vI v13, vI v16, vI v19, vI v22, vI v23, vI v33, vI kk_, vR b39, vI 1, vI 1, .unset, .unset] [iI y_, iI x_, iR b39]
    refine XS.iload X43.here hx rfl (hb hby at_282) rfl ?_
    refine XS.iload X43.here hx rfl (hb hby at_284) rfl ?_
    refine XS.iload X43.here hx rfl (hb hby at_286) rfl ?_
    refine XS.iload X43.here hx rfl (hb hby at_288) rfl ?_
    refine XS.iload X43.here hx rfl (hb hby at_290) rfl ?_
    refine XS.iload X43.here hx rfl (hb hby at_292) rfl ?_
    refine XS.iload X43.here hx rfl (hb hby at_294) rfl ?_
    refine XS.iload X43.here hx rfl (hb hby at_296) rfl ?_
    show SA T43 m 298 #[vJ q1, .second, vJ q2, .second, vJ q3, .second, vI p4, vI p5, vI x_, vI y_, vI z_, vI u_, vI v_, vI w_, vI v7, vI v10, vI v13, vI v16, vI v19, vI v22, vI v23, vI v33, vI kk_, vR b39, vI 1, vI 1, .unset, .unset] [iI v16, iI v10, iI v7, iI w_, iI v_, iI v23, iI v22, iI u_, iI y_, iI x_, iR b39]
    refine XS.iload X43.here hx rfl (hb hby at_298) rfl ?_
    refine st44 _ ?_
    refine XS.istore X44.here hx rfl (hb hby at_303) rfl (l' := #[vJ q1, .second, vJ q2, .second, vJ q3, .second, vI p4, vI p5, vI x_, vI y_, vI z_, vI u_, vI v_, vI w_, vI v7, vI v10, vI v13, vI v16, vI v19, vI v22, vI v23, vI v33, vI kk_, vR b39, vI 1, vI 1, vI 1, .unset]) rfl ?_
    refine XS.aload X44.here hx rfl (hb hby at_305) rfl rfl ?_
    refine st45.trans ?_
    refine XS.bipush X45.here hx rfl (hb hby at_310) ?_
    refine XS.icmpNo X45.here hx rfl (hb hby at_312) rfl (teq (by decide : (7 : Int32) = (7 : Int32))).2 ?_
    refine XS.iconst X45.here hx rfl (hb hby at_315) ?_
    refine XS.goto X45.here hx rfl (pc0 := 316) (pc' := 320) rfl (hb hby at_316) (by decide) (by decide) ?_
    refine XS.istore X45.here hx rfl (hb hby at_320) rfl (l' := #[vJ q1, .second, vJ q2, .second, vJ q3, .second, vI p4, vI p5, vI x_, vI y_, vI z_, vI u_, vI v_, vI w_, vI v7, vI v10, vI v13, vI v16, vI v19, vI v22, vI v23, vI v33, vI kk_, vR b39, vI 1, vI 1, vI 1, vI 1]) rfl ?_
    refine XS.iload X45.here hx rfl (hb hby at_322) rfl ?_
    refine XS.ifNo X45.here hx rfl (hb hby at_324) rfl ((if0 _ _).trans (feq (by decide : ¬ ((1 : Int32) = (0 : Int32)))).1) ?_
    refine XS.iload X45.here hx rfl (hb hby at_327) rfl ?_
    show SA T45 m 329 #[vJ q1, .second, vJ q2, .second, vJ q3, .second, vI p4, vI p5, vI x_, vI y_, vI z_, vI u_, vI v_, vI w_, vI v7, vI v10, vI v13, vI v16, vI v19, vI v22, vI v23, vI v33, vI kk_, vR b39, vI 1, vI 1, vI 1, vI 1] [iI 1]
    refine XS.ifNo X45.here hx rfl (hb hby at_329) rfl ((if0 _ _).trans (feq (by decide : ¬ ((1 : Int32) = (0 : Int32)))).1) ?_
    refine XS.iload X45.here hx rfl (hb hby at_332) rfl ?_
    refine XS.ifNo X45.here hx rfl (hb hby at_334) rfl ((if0 _ _).trans (feq (by decide : ¬ ((1 : Int32) = (0 : Int32)))).1) ?_
    refine XS.iload X45.here hx rfl (hb hby at_337) rfl ?_
    refine XS.ifNo X45.here hx rfl (hb hby at_339) rfl ((if0 _ _).trans (feq (by decide : ¬ ((1 : Int32) = (0 : Int32)))).1) ?_
    refine XS.iconst X45.here hx rfl (hb hby at_342) ?_
    refine XS.goto X45.here hx rfl (pc0 := 343) (pc' := 347) rfl (hb hby at_343) (by decide) (by decide) ?_
    show Steps _ _ _ (T45.setTop (mkF m 347 #[vJ q1, .second, vJ q2, .second, vJ q3, .second, vI p4, vI p5, vI x_, vI y_, vI z_, vI u_, vI v_, vI w_, vI v7, vI v10, vI v13, vI v16, vI v19, vI v22, vI v23, vI v33, vI kk_, vR b39, vI 1, vI 1, vI 1, vI 1] [iI 1])) _
    exact retN X45 hx (t := .boolean) Bd.returns (by simp) (hb hby at_347) hr
  · show Q0 Z q1 q2 q3 p4 p5 h0 n0 _ T45.heap _
    rw [e45]
    exact ⟨rfl, N44⟩
theorem comes_1 {Post : Tables → Env → Array Value → State → Outcome → State → Prop} (hpost : ∀ tb e args s v u, (limb_1_1.after args s (.returned v) u = true ∧ limb_1_2.after args s (.returned v) u = true ∧ True) → FrameEnd s (.returned v) u (Jvm.fieldLocs frame_1_writes args s ++ Jvm.arrayLocs frame_1_arrays args s ++ Jvm.staticLocs frame_1_statics s) 32 320 → Post tb e args s (.returned v) u) :
    ArmFor flags0 classFile x code maxLocals ret World_1 tables_1 room_1 Calls_1 rest_1 Pre_1 Post := by
  intro l hfl _ _ p e ha hc hk s m args below hf hA hF happ hP
  obtain ⟨hcalls, hrest, hpre⟩ := hP
  obtain ⟨-, -, -, hnamed, -, -, -, hat⟩ := (Spec.applies_iff hf).mp happ
  obtain ⟨hg, hn⟩ := and_e (Cond.before_iff.mp (show (Jvm.Cond.and given_1 narrow_1).before args s = true from hpre))
  obtain ⟨gc, gr0⟩ := and_e hg
  obtain ⟨ga0, gr1⟩ := and_e gr0
  obtain ⟨ga1, gr2⟩ := and_e gr1
  obtain ⟨ga2, gr3⟩ := and_e gr2
  obtain ⟨ga3, gr4⟩ := and_e gr3
  obtain ⟨w0, w1, w2, w3, w4, rfl⟩ : ∃ w0 w1 w2 w3 w4 : Value, args = #[w0, w1, w2, w3, w4] := by
    have hs : args.size = 5 := by simpa [Cond.value, given_1] using gc
    obtain ⟨L⟩ := args
    match L, hs with
    | [w0, w1, w2, w3, w4], _ => exact ⟨w0, w1, w2, w3, w4, rfl⟩
  have hw := fun d (hd : d ∈ tables_1) => atoms_spec (ws := Jvm.Cond.code x code maxLocals ret :: tables_1) hat d (List.mem_cons_of_mem _ hd)
  have hfit : Fit s := fun {y c} hc i hi => by
    obtain ⟨ha, rfl⟩ := Array.getElem?_eq_some_iff.mp hc
    have q := List.all_eq_true.mp ((Array.all_eq_true_iff_forall_mem.mp hF) _ (Array.getElem_mem ha)) i (List.mem_range.mpr hi)
    simpa [Array.getElem?_eq_getElem hi] using q
  obtain ⟨i0, ei0⟩ := isL_v ga0
  obtain rfl : w0 = (.long i0) := Option.some.inj ei0
  obtain ⟨i1, ei1⟩ := isL_v ga1
  obtain rfl : w1 = (.long i1) := Option.some.inj ei1
  obtain ⟨i2, ei2⟩ := isL_v ga2
  obtain rfl : w2 = (.long i2) := Option.some.inj ei2
  obtain ⟨i3, ei3⟩ := is_v ga3
  obtain rfl : w3 = (.int i3) := Option.some.inj ei3
  obtain ⟨i4, ei4⟩ := is_v gr4
  obtain rfl : w4 = (.int i4) := Option.some.inj ei4
  obtain ⟨n, o, h1, h2, h3, _, L, rfl, Qv, hq⟩ := rm0 l s _ hw tables_1 i0 i1 i2 i3 i4  s.heap s.heap.size (Nat.le_refl _)  p e ha hc hk s m _ below hf ((Spec.applies_iff_loose hf).mp happ).1 ⟨rfl, State.Warmed39.refl s, rfl⟩ trivial
  obtain ⟨rfl, N⟩ := Qv
  refine ⟨n, _, h1, h2, h3, hpost _ _ _ _ _ _ ⟨Cond.after_iff.mpr rfl, Cond.after_iff.mpr (eq_i res_at (Term.int_eval (1)) rfl), trivial⟩ ⟨hq.1, hq.2.1, (hq.2.2.sift fun y hy => Or.inr (N y hy)).mono (by decide) (by decide)⟩⟩
theorem main_1_1 : Claimed_1_1 := comes_1 fun _ _ _ _ _ _ h hF => ⟨h.1, hF⟩
theorem main_1_2 : Claimed_1_2 := comes_1 fun _ _ _ _ _ _ h hF => ⟨h.2.1, hF⟩
end Jvm.Pilot.@@N@@
namespace Jvm.Pilot.@@N@@
open Jvm Jvm.ClassFile Sem Op Lib Jvm.Free Jvm.Stand Jvm.Pilot.@@N@@.Jvm.D
/-! MADE BY PROGRAM (witnessworld.py) out of the Statement's table words and the real class files: 18 classes; the members and pool entries that the words name. The judged class is class 1, her method 1. -/
namespace start1
open Jvm.ClassFile
def u (s : String) : CpInfo := .utf8 (stringToUtf16 s)
/-- a pool by its gaps: so many unusable entries, then the entry; so many at the end -/
def gap : Nat → List CpInfo → List CpInfo
  | 0, r => r
  | n + 1, r => .unusable :: gap n r
def poolList (es : List (Nat × CpInfo)) (last : Nat) : List CpInfo := es.foldr (fun e r => gap e.1 (e.2 :: r)) (gap last [])
def pool (es : List (Nat × CpInfo)) (last : Nat) : Array CpInfo := ⟨poolList es last⟩
def fileOf (pool : Array CpInfo) (this : Nat) (attrs : Array Attribute := #[]) (ms : Array MethodInfo := #[]) (fl : Nat := 33) (sup : Nat := 0) (ifs : Array Nat := #[]) (fds : Array FieldInfo := #[]) : ClassFile where
  minorVersion := 0
  majorVersion := 65
  constantPool := pool
  accessFlags := fl
  thisClass := this
  superClass := sup
  interfaces := ifs
  fields := fds
  methods := ms
  attributes := attrs
def plain (name : String) (sup : Option ClassId) : Class where
  name := name
  kind := .ordinary
  loader := none
  accessFlags := 33
  super := sup
  interfaces := #[]
  cf := none
  fields := #[]
  methods := #[]
  instanceTypes := #[]
  staticTypes := #[]
  resolved := #[]
  callSites := []
  init := .initialized
  statics := none
  mirror := none

def pool0 : Array CpInfo := pool [(5, u "<init>"), (0, u "()V"), (1, .class_ 10), (1, u "java/lang/Object")] 113

def k0c0 : Code := { maxStack := 0, maxLocals := 1, code := object_method_1_code, exceptionTable := #[], attributes := #[] }
def k0m0 : Method := { name := "<init>", desc := "()V", sig := { parameters := [], returnType := none }, accessFlags := 1, code := some k0c0 }
/-- java/lang/Object -/
def k0 : Class := { plain "java/lang/Object" none with
  accessFlags := 33
  interfaces := #[]
  cf := some (fileOf pool0 8 #[] #[{ accessFlags := 1, nameIndex := 5, descriptorIndex := 6, attributes := #[] }] 33 0 #[] #[])
  fields := #[]
  methods := #[k0m0]
  instanceTypes := #[]
  staticTypes := #[]
  resolved := Array.replicate 124 none
  statics := none }

def pool1 : Array CpInfo := pool [(2, .class_ 4), (0, .nameAndType 5 6), (0, u "java/lang/Object"), (0, u "<init>"), (0, u "()V"), (0, .integer 2147483647), (0, .class_ 9), (0, u "com/example/tidemine/tidemine/PatternTrie"), (0, .methodref 8 3), (0, .methodref 12 13), (0, .class_ 14), (0, .nameAndType 15 16), (0, u "com/example/tidemine/tidemine/PatternTrieTruncatePinLaw"), (0, u "build"), (0, u "(Lcom/example/tidemine/tidemine/PatternTrie;IIIIZIIZZZZ)Z"), (0, .methodref 8 18), (0, .nameAndType 19 20), (0, u "truncate"), (0, u "(I)V"), (0, .methodref 8 22), (0, .nameAndType 23 24), (0, u "size"), (0, u "()I"), (0, .methodref 8 26), (0, .nameAndType 27 28), (0, u "child"), (0, u "(IIZ)I"), (2, u "law"), (0, u "(JJJII)Z")] 3

def k1m0 : Method := { name := "<init>", desc := "()V", sig := { parameters := [], returnType := none }, accessFlags := 1, code := none }
def k1c1 : Code := { maxStack := 12, maxLocals := 28, code := code, exceptionTable := #[], attributes := #[] }
def k1m1 : Method := { name := "law", desc := "(JJJII)Z", sig := { parameters := [.long, .long, .long, .int, .int], returnType := some .boolean }, accessFlags := 9, code := some k1c1 }
def k1c2 : Code := { maxStack := 4, maxLocals := 18, code := method_3_code, exceptionTable := #[], attributes := #[] }
def k1m2 : Method := { name := "build", desc := "(Lcom/example/tidemine/tidemine/PatternTrie;IIIIZIIZZZZ)Z", sig := { parameters := [(.object "com/example/tidemine/tidemine/PatternTrie"), .int, .int, .int, .int, .boolean, .int, .int, .boolean, .boolean, .boolean, .boolean], returnType := some .boolean }, accessFlags := 10, code := some k1c2 }
/-- com/example/tidemine/tidemine/PatternTrieTruncatePinLaw -/
def k1 : Class := { plain "com/example/tidemine/tidemine/PatternTrieTruncatePinLaw" (some 0) with
  accessFlags := 49
  interfaces := #[]
  cf := some (fileOf pool1 12 #[] #[{ accessFlags := 1, nameIndex := 5, descriptorIndex := 6, attributes := #[] }, { accessFlags := 9, nameIndex := 31, descriptorIndex := 32, attributes := #[] }, { accessFlags := 10, nameIndex := 15, descriptorIndex := 16, attributes := #[] }] 49 2 #[] #[])
  fields := #[]
  methods := #[k1m0, k1m1, k1m2]
  instanceTypes := #[]
  staticTypes := #[]
  resolved := Array.replicate 36 none
  statics := none }

def pool2 : Array CpInfo := pool [(1, .methodref 2 3), (0, .class_ 4), (0, .nameAndType 5 6), (0, u "java/lang/Object"), (0, u "<init>"), (0, u "()V"), (0, .fieldref 8 9), (0, .class_ 10), (0, .nameAndType 11 12), (0, u "com/example/tidemine/tidemine/PatternTrie"), (0, u "size"), (0, u "I"), (0, .fieldref 8 14), (0, .nameAndType 15 16), (0, u "items"), (0, u "[I"), (0, .fieldref 8 18), (0, .nameAndType 19 20), (0, u "sameEvents"), (0, u "[Z"), (0, .fieldref 8 22), (0, .nameAndType 23 16), (0, u "parents"), (0, .class_ 16), (0, .fieldref 8 26), (0, .nameAndType 27 28), (0, u "children"), (0, u "[[I"), (0, .fieldref 8 30), (0, .nameAndType 31 16), (0, u "childCounts"), (0, .methodref 8 33), (0, .nameAndType 34 35), (0, u "search"), (0, u "(IIZ)I"), (13, .methodref 50 51), (0, .class_ 52), (0, .nameAndType 53 54), (0, u "java/lang/System"), (0, u "arraycopy"), (0, u "(Ljava/lang/Object;ILjava/lang/Object;II)V"), (24, u "()I"), (14, u "child"), (35, .class_ 131), (0, u "com/example/tidemine/tidemine/PatternTrie$SequenceIndex"), (5, u "(I)V"), (8, u "(II)I"), (0, .class_ 148), (0, u "com/example/tidemine/tidemine/PatternTrie$Level"), (56, .class_ 207), (1, u "java/lang/Integer"), (4, u "edgeKeys"), (0, u "[J"), (8, u "edgeFirsts"), (5, u "edgeShift"), (43, .methodref 205 273), (0, .nameAndType 274 146), (0, u "compare"), (0, .methodref 276 277), (0, .class_ 278), (0, .nameAndType 274 279), (0, u "java/lang/Boolean"), (0, u "(ZZ)I"), (0, u "ROOT"), (2, u "NO_EDGE"), (0, u "J"), (0, u "TRIES_PER_LOOKUP"), (4, u "truncate")] 15

def k2c0 : Code := { maxStack := 2, maxLocals := 1, code := prog_23_method_1_code, exceptionTable := #[], attributes := #[] }
def k2m0 : Method := { name := "<init>", desc := "()V", sig := { parameters := [], returnType := none }, accessFlags := 0, code := some k2c0 }
def k2c1 : Code := { maxStack := 1, maxLocals := 1, code := prog_23_method_2_code, exceptionTable := #[], attributes := #[] }
def k2m1 : Method := { name := "size", desc := "()I", sig := { parameters := [], returnType := some .int }, accessFlags := 0, code := some k2c1 }
def k2c2 : Code := { maxStack := 6, maxLocals := 8, code := prog_23_method_3_code, exceptionTable := #[], attributes := #[] }
def k2m2 : Method := { name := "child", desc := "(IIZ)I", sig := { parameters := [.int, .int, .boolean], returnType := some .int }, accessFlags := 0, code := some k2c2 }
def k2c3 : Code := { maxStack := 4, maxLocals := 8, code := prog_23_method_4_code, exceptionTable := #[], attributes := #[] }
def k2m3 : Method := { name := "truncate", desc := "(I)V", sig := { parameters := [.int], returnType := none }, accessFlags := 0, code := some k2c3 }
def k2c4 : Code := { maxStack := 2, maxLocals := 11, code := prog_23_method_19_code, exceptionTable := #[], attributes := #[] }
def k2m4 : Method := { name := "search", desc := "(IIZ)I", sig := { parameters := [.int, .int, .boolean], returnType := some .int }, accessFlags := 2, code := some k2c4 }
/-- com/example/tidemine/tidemine/PatternTrie -/
def k2 : Class := { plain "com/example/tidemine/tidemine/PatternTrie" (some 0) with
  accessFlags := 48
  interfaces := #[]
  cf := some (fileOf pool2 8 #[.nestMembers #[130, 147]] #[{ accessFlags := 0, nameIndex := 5, descriptorIndex := 6, attributes := #[] }, { accessFlags := 0, nameIndex := 11, descriptorIndex := 79, attributes := #[] }, { accessFlags := 0, nameIndex := 94, descriptorIndex := 35, attributes := #[] }, { accessFlags := 0, nameIndex := 290, descriptorIndex := 137, attributes := #[] }, { accessFlags := 2, nameIndex := 34, descriptorIndex := 35, attributes := #[] }] 48 2 #[] #[{ accessFlags := 24, nameIndex := 280, descriptorIndex := 12, attributes := #[] }, { accessFlags := 26, nameIndex := 283, descriptorIndex := 284, attributes := #[] }, { accessFlags := 26, nameIndex := 285, descriptorIndex := 12, attributes := #[] }, { accessFlags := 2, nameIndex := 11, descriptorIndex := 12, attributes := #[] }, { accessFlags := 2, nameIndex := 15, descriptorIndex := 16, attributes := #[] }, { accessFlags := 2, nameIndex := 19, descriptorIndex := 20, attributes := #[] }, { accessFlags := 2, nameIndex := 23, descriptorIndex := 16, attributes := #[] }, { accessFlags := 2, nameIndex := 27, descriptorIndex := 28, attributes := #[] }, { accessFlags := 2, nameIndex := 31, descriptorIndex := 16, attributes := #[] }, { accessFlags := 2, nameIndex := 212, descriptorIndex := 213, attributes := #[] }, { accessFlags := 2, nameIndex := 222, descriptorIndex := 16, attributes := #[] }, { accessFlags := 2, nameIndex := 228, descriptorIndex := 12, attributes := #[] }])
  fields := #[{ name := "ROOT", type := .int, accessFlags := 24, slot := 0, constantValue := 0 }, { name := "NO_EDGE", type := .long, accessFlags := 26, slot := 1, constantValue := 0 }, { name := "TRIES_PER_LOOKUP", type := .int, accessFlags := 26, slot := 2, constantValue := 0 }, { name := "size", type := .int, accessFlags := 2, slot := 0, constantValue := 0 }, { name := "items", type := (.array .int), accessFlags := 2, slot := 1, constantValue := 0 }, { name := "sameEvents", type := (.array .boolean), accessFlags := 2, slot := 2, constantValue := 0 }, { name := "parents", type := (.array .int), accessFlags := 2, slot := 3, constantValue := 0 }, { name := "children", type := (.array (.array .int)), accessFlags := 2, slot := 4, constantValue := 0 }, { name := "childCounts", type := (.array .int), accessFlags := 2, slot := 5, constantValue := 0 }, { name := "edgeKeys", type := (.array .long), accessFlags := 2, slot := 6, constantValue := 0 }, { name := "edgeFirsts", type := (.array .int), accessFlags := 2, slot := 7, constantValue := 0 }, { name := "edgeShift", type := .int, accessFlags := 2, slot := 8, constantValue := 0 }]
  methods := #[k2m0, k2m1, k2m2, k2m3, k2m4]
  instanceTypes := #[.int, (.array .int), (.array .boolean), (.array .int), (.array (.array .int)), (.array .int), (.array .long), (.array .int), .int]
  staticTypes := #[.int, .long, .int]
  resolved := Array.replicate 306 none
  statics := none }

def pool3 : Array CpInfo := pool [(2, .class_ 4), (1, u "java/lang/Object"), (0, u "<init>"), (0, u "()V"), (1, .class_ 10), (1, u "java/lang/System"), (0, u "allowSecurityManager"), (0, u "I"), (16, u "cons"), (0, u "Ljava/io/Console;"), (77, .class_ 110), (1, u "java/lang/System$CallersHolder"), (43, u "initialErrStream"), (0, u "Ljava/io/PrintStream;"), (19, u "security"), (0, u "Ljava/lang/SecurityManager;"), (31, .class_ 209), (0, u "java/lang/System$1"), (7, u "props"), (0, u "Ljava/util/Properties;"), (2, u "lineSeparator"), (0, u "Ljava/lang/String;"), (96, .class_ 321), (1, u "java/lang/System$LoggerFinder"), (5, .class_ 328), (0, u "java/lang/System$Logger"), (67, u "err"), (2, u "out"), (91, u "notSupportedJnuEncoding"), (15, u "in"), (17, u "initialIn"), (0, u "Ljava/io/InputStream;"), (35, u "bootLayer"), (0, u "Ljava/lang/ModuleLayer;"), (99, .class_ 664), (0, u "java/lang/System$2"), (9, u "NEVER"), (2, u "MAYBE"), (49, u "arraycopy"), (0, u "(Ljava/lang/Object;ILjava/lang/Object;II)V"), (72, .class_ 802), (0, u "java/lang/System$Logger$Level")] 31

def k3m0 : Method := { name := "<init>", desc := "()V", sig := { parameters := [], returnType := none }, accessFlags := 2, code := none }
def k3m1 : Method := { name := "arraycopy", desc := "(Ljava/lang/Object;ILjava/lang/Object;II)V", sig := { parameters := [(.object "java/lang/Object"), .int, (.object "java/lang/Object"), .int, .int], returnType := none }, accessFlags := 265, code := none }
/-- java/lang/System -/
def k3 : Class := { plain "java/lang/System" (some 0) with
  accessFlags := 49
  interfaces := #[]
  cf := some (fileOf pool3 8 #[.nestMembers #[319, 327, 801, 108, 663, 208]] #[{ accessFlags := 2, nameIndex := 5, descriptorIndex := 6, attributes := #[] }, { accessFlags := 265, nameIndex := 727, descriptorIndex := 728, attributes := #[] }] 49 2 #[] #[{ accessFlags := 25, nameIndex := 507, descriptorIndex := 526, attributes := #[] }, { accessFlags := 25, nameIndex := 399, descriptorIndex := 155, attributes := #[] }, { accessFlags := 25, nameIndex := 396, descriptorIndex := 155, attributes := #[] }, { accessFlags := 10, nameIndex := 525, descriptorIndex := 526, attributes := #[] }, { accessFlags := 26, nameIndex := 674, descriptorIndex := 12, attributes := #[] }, { accessFlags := 26, nameIndex := 677, descriptorIndex := 12, attributes := #[] }, { accessFlags := 10, nameIndex := 11, descriptorIndex := 12, attributes := #[] }, { accessFlags := 74, nameIndex := 175, descriptorIndex := 176, attributes := #[] }, { accessFlags := 10, nameIndex := 491, descriptorIndex := 222, attributes := #[] }, { accessFlags := 74, nameIndex := 29, descriptorIndex := 30, attributes := #[] }, { accessFlags := 74, nameIndex := 154, descriptorIndex := 155, attributes := #[] }, { accessFlags := 10, nameIndex := 217, descriptorIndex := 218, attributes := #[] }, { accessFlags := 10, nameIndex := 221, descriptorIndex := 222, attributes := #[] }, { accessFlags := 8, nameIndex := 562, descriptorIndex := 563, attributes := #[] }])
  fields := #[{ name := "in", type := (.object "java/io/InputStream"), accessFlags := 25, slot := 0, constantValue := 0 }, { name := "out", type := (.object "java/io/PrintStream"), accessFlags := 25, slot := 1, constantValue := 0 }, { name := "err", type := (.object "java/io/PrintStream"), accessFlags := 25, slot := 2, constantValue := 0 }, { name := "initialIn", type := (.object "java/io/InputStream"), accessFlags := 10, slot := 3, constantValue := 0 }, { name := "NEVER", type := .int, accessFlags := 26, slot := 4, constantValue := 0 }, { name := "MAYBE", type := .int, accessFlags := 26, slot := 5, constantValue := 0 }, { name := "allowSecurityManager", type := .int, accessFlags := 10, slot := 6, constantValue := 0 }, { name := "security", type := (.object "java/lang/SecurityManager"), accessFlags := 74, slot := 7, constantValue := 0 }, { name := "notSupportedJnuEncoding", type := (.object "java/lang/String"), accessFlags := 10, slot := 8, constantValue := 0 }, { name := "cons", type := (.object "java/io/Console"), accessFlags := 74, slot := 9, constantValue := 0 }, { name := "initialErrStream", type := (.object "java/io/PrintStream"), accessFlags := 74, slot := 10, constantValue := 0 }, { name := "props", type := (.object "java/util/Properties"), accessFlags := 10, slot := 11, constantValue := 0 }, { name := "lineSeparator", type := (.object "java/lang/String"), accessFlags := 10, slot := 12, constantValue := 0 }, { name := "bootLayer", type := (.object "java/lang/ModuleLayer"), accessFlags := 8, slot := 13, constantValue := 0 }]
  methods := #[k3m0, k3m1]
  instanceTypes := #[]
  staticTypes := #[(.object "java/io/InputStream"), (.object "java/io/PrintStream"), (.object "java/io/PrintStream"), (.object "java/io/InputStream"), .int, .int, .int, (.object "java/lang/SecurityManager"), (.object "java/lang/String"), (.object "java/io/Console"), (.object "java/io/PrintStream"), (.object "java/util/Properties"), (.object "java/lang/String"), (.object "java/lang/ModuleLayer")]
  resolved := Array.replicate 834 none
  statics := none }

def pool4 : Array CpInfo := pool [(1, .class_ 2), (0, u "java/io/Serializable"), (0, .class_ 4), (0, u "java/lang/Object")] 2

/-- java/io/Serializable -/
def k4 : Class := { plain "java/io/Serializable" (some 0) with
  accessFlags := 1537
  interfaces := #[]
  cf := some (fileOf pool4 1 #[] #[] 1537 3 #[] #[])
  fields := #[]
  methods := #[]
  instanceTypes := #[]
  staticTypes := #[]
  resolved := Array.replicate 7 none
  statics := none }

def pool5 : Array CpInfo := pool [(2, .class_ 4), (1, u "java/lang/Object"), (0, u "<init>"), (0, u "()V"), (1, .class_ 10), (1, u "java/lang/Number"), (2, .class_ 14), (0, u "java/io/Serializable"), (0, u "serialVersionUID"), (0, u "J")] 20

def k5m0 : Method := { name := "<init>", desc := "()V", sig := { parameters := [], returnType := none }, accessFlags := 1, code := none }
/-- java/lang/Number -/
def k5 : Class := { plain "java/lang/Number" (some 0) with
  accessFlags := 1057
  interfaces := #[4]
  cf := some (fileOf pool5 8 #[] #[{ accessFlags := 1, nameIndex := 5, descriptorIndex := 6, attributes := #[] }] 1057 2 #[13] #[{ accessFlags := 26, nameIndex := 15, descriptorIndex := 16, attributes := #[] }])
  fields := #[{ name := "serialVersionUID", type := .long, accessFlags := 26, slot := 0, constantValue := 0 }]
  methods := #[k5m0]
  instanceTypes := #[]
  staticTypes := #[.long]
  resolved := Array.replicate 37 none
  statics := none }

def pool6 : Array CpInfo := pool [(1, .class_ 2), (0, u "java/lang/Comparable"), (0, .class_ 4), (0, u "java/lang/Object")] 7

/-- java/lang/Comparable -/
def k6 : Class := { plain "java/lang/Comparable" (some 0) with
  accessFlags := 1537
  interfaces := #[]
  cf := some (fileOf pool6 1 #[] #[] 1537 3 #[] #[])
  fields := #[]
  methods := #[]
  instanceTypes := #[]
  staticTypes := #[]
  resolved := Array.replicate 12 none
  statics := none }

def pool7 : Array CpInfo := pool [(1, .class_ 2), (0, u "java/lang/constant/Constable"), (0, .class_ 4), (0, u "java/lang/Object")] 6

/-- java/lang/constant/Constable -/
def k7 : Class := { plain "java/lang/constant/Constable" (some 0) with
  accessFlags := 1537
  interfaces := #[]
  cf := some (fileOf pool7 1 #[] #[] 1537 3 #[] #[])
  fields := #[]
  methods := #[]
  instanceTypes := #[]
  staticTypes := #[]
  resolved := Array.replicate 11 none
  statics := none }

def pool8 : Array CpInfo := pool [(1, .class_ 2), (0, u "java/lang/constant/ConstantDesc"), (0, .class_ 4), (0, u "java/lang/Object")] 32

/-- java/lang/constant/ConstantDesc -/
def k8 : Class := { plain "java/lang/constant/ConstantDesc" (some 0) with
  accessFlags := 1537
  interfaces := #[]
  cf := some (fileOf pool8 1 #[] #[] 1537 3 #[] #[])
  fields := #[]
  methods := #[]
  instanceTypes := #[]
  staticTypes := #[]
  resolved := Array.replicate 37 none
  statics := none }

def pool9 : Array CpInfo := pool [(1, .class_ 2), (0, u "java/lang/Integer"), (16, u "digits"), (0, u "[C"), (39, u "(II)I"), (24, u "DigitOnes"), (0, u "[B"), (2, u "DigitTens"), (99, .class_ 190), (0, u "java/lang/Integer$IntegerCache"), (3, u "I"), (8, .class_ 204), (0, u "java/lang/Number"), (2, u "value"), (53, u "compare"), (40, u "TYPE"), (0, u "Ljava/lang/Class;"), (0, .class_ 305), (0, u "java/lang/Comparable"), (0, .class_ 307), (0, u "java/lang/constant/Constable"), (0, .class_ 309), (0, u "java/lang/constant/ConstantDesc"), (0, u "MIN_VALUE"), (1, u "MAX_VALUE"), (3, u "SIZE"), (1, u "BYTES"), (1, u "serialVersionUID"), (0, u "J")] 131

def k9c0 : Code := { maxStack := 2, maxLocals := 2, code := jdk_33_method_40_code, exceptionTable := #[], attributes := #[] }
def k9m0 : Method := { name := "compare", desc := "(II)I", sig := { parameters := [.int, .int], returnType := some .int }, accessFlags := 9, code := some k9c0 }
/-- java/lang/Integer -/
def k9 : Class := { plain "java/lang/Integer" (some 5) with
  accessFlags := 49
  interfaces := #[6, 7, 8]
  cf := some (fileOf pool9 1 #[.nestMembers #[189]] #[{ accessFlags := 9, nameIndex := 261, descriptorIndex := 60, attributes := #[] }] 49 203 #[304, 306, 308] #[{ accessFlags := 25, nameIndex := 310, descriptorIndex := 194, attributes := #[] }, { accessFlags := 25, nameIndex := 312, descriptorIndex := 194, attributes := #[] }, { accessFlags := 25, nameIndex := 302, descriptorIndex := 303, attributes := #[] }, { accessFlags := 24, nameIndex := 19, descriptorIndex := 20, attributes := #[] }, { accessFlags := 24, nameIndex := 89, descriptorIndex := 86, attributes := #[] }, { accessFlags := 24, nameIndex := 85, descriptorIndex := 86, attributes := #[] }, { accessFlags := 18, nameIndex := 207, descriptorIndex := 194, attributes := #[] }, { accessFlags := 25, nameIndex := 316, descriptorIndex := 194, attributes := #[] }, { accessFlags := 25, nameIndex := 318, descriptorIndex := 194, attributes := #[] }, { accessFlags := 26, nameIndex := 320, descriptorIndex := 321, attributes := #[] }])
  fields := #[{ name := "MIN_VALUE", type := .int, accessFlags := 25, slot := 0, constantValue := 0 }, { name := "MAX_VALUE", type := .int, accessFlags := 25, slot := 1, constantValue := 0 }, { name := "TYPE", type := (.object "java/lang/Class"), accessFlags := 25, slot := 2, constantValue := 0 }, { name := "digits", type := (.array .char), accessFlags := 24, slot := 3, constantValue := 0 }, { name := "DigitTens", type := (.array .byte), accessFlags := 24, slot := 4, constantValue := 0 }, { name := "DigitOnes", type := (.array .byte), accessFlags := 24, slot := 5, constantValue := 0 }, { name := "value", type := .int, accessFlags := 18, slot := 0, constantValue := 0 }, { name := "SIZE", type := .int, accessFlags := 25, slot := 6, constantValue := 0 }, { name := "BYTES", type := .int, accessFlags := 25, slot := 7, constantValue := 0 }, { name := "serialVersionUID", type := .long, accessFlags := 26, slot := 8, constantValue := 0 }]
  methods := #[k9m0]
  instanceTypes := #[.int]
  staticTypes := #[.int, .int, (.object "java/lang/Class"), (.array .char), (.array .byte), (.array .byte), .int, .int, .long]
  resolved := Array.replicate 453 none
  statics := none }

def pool10 : Array CpInfo := pool [(2, .class_ 4), (1, u "java/lang/Object"), (3, .class_ 10), (1, u "java/lang/Boolean"), (0, u "value"), (0, u "Z"), (16, u "TRUE"), (0, u "Ljava/lang/Boolean;"), (2, u "FALSE"), (24, u "compare"), (0, u "(ZZ)I"), (27, u "TYPE"), (0, u "Ljava/lang/Class;"), (0, .class_ 90), (0, u "java/io/Serializable"), (0, .class_ 92), (0, u "java/lang/Comparable"), (0, .class_ 94), (0, u "java/lang/constant/Constable"), (2, u "serialVersionUID"), (0, u "J")] 53

def k10c0 : Code := { maxStack := 2, maxLocals := 2, code := jdk_2055_method_14_code, exceptionTable := #[], attributes := #[] }
def k10m0 : Method := { name := "compare", desc := "(ZZ)I", sig := { parameters := [.boolean, .boolean], returnType := some .int }, accessFlags := 9, code := some k10c0 }
/-- java/lang/Boolean -/
def k10 : Class := { plain "java/lang/Boolean" (some 0) with
  accessFlags := 49
  interfaces := #[4, 6, 7]
  cf := some (fileOf pool10 8 #[] #[{ accessFlags := 9, nameIndex := 58, descriptorIndex := 59, attributes := #[] }] 49 2 #[89, 91, 93] #[{ accessFlags := 25, nameIndex := 29, descriptorIndex := 30, attributes := #[] }, { accessFlags := 25, nameIndex := 33, descriptorIndex := 30, attributes := #[] }, { accessFlags := 25, nameIndex := 87, descriptorIndex := 88, attributes := #[] }, { accessFlags := 18, nameIndex := 11, descriptorIndex := 12, attributes := #[] }, { accessFlags := 26, nameIndex := 97, descriptorIndex := 98, attributes := #[] }])
  fields := #[{ name := "TRUE", type := (.object "java/lang/Boolean"), accessFlags := 25, slot := 0, constantValue := 0 }, { name := "FALSE", type := (.object "java/lang/Boolean"), accessFlags := 25, slot := 1, constantValue := 0 }, { name := "TYPE", type := (.object "java/lang/Class"), accessFlags := 25, slot := 2, constantValue := 0 }, { name := "value", type := .boolean, accessFlags := 18, slot := 0, constantValue := 0 }, { name := "serialVersionUID", type := .long, accessFlags := 26, slot := 3, constantValue := 0 }]
  methods := #[k10m0]
  instanceTypes := #[.boolean]
  staticTypes := #[(.object "java/lang/Boolean"), (.object "java/lang/Boolean"), (.object "java/lang/Class"), .long]
  resolved := Array.replicate 152 none
  statics := none }

def pool11 : Array CpInfo := pool [(1, u "java/lang/Cloneable"), (0, .class_ 1), (0, u "java/lang/Object"), (0, .class_ 3)] 3

/-- java/lang/Cloneable -/
def k11 : Class := { plain "java/lang/Cloneable" (some 0) with
  accessFlags := 1537
  interfaces := #[]
  cf := some (fileOf pool11 2 #[] #[] 1537 4 #[] #[])
  fields := #[]
  methods := #[]
  instanceTypes := #[]
  staticTypes := #[]
  resolved := Array.replicate 8 none
  statics := none }

/-- the primitive boolean -/
def k12 : Class := { plain "boolean" none with kind := .primitive 'Z', accessFlags := 0x411 }
/-- [Z -/
def k13 : Class := { plain "[Z" (some 0) with kind := .array 12 .boolean, interfaces := #[11, 4], accessFlags := 1041 }

/-- the primitive byte -/
def k14 : Class := { plain "byte" none with kind := .primitive 'B', accessFlags := 0x411 }
/-- [B -/
def k15 : Class := { plain "[B" (some 0) with kind := .array 14 .byte, interfaces := #[11, 4], accessFlags := 1041 }

/-- the primitive int -/
def k16 : Class := { plain "int" none with kind := .primitive 'I', accessFlags := 0x411 }
/-- [I -/
def k17 : Class := { plain "[I" (some 0) with kind := .array 16 .int, interfaces := #[11, 4], accessFlags := 1041 }
/-- [[I -/
def k18 : Class := { plain "[[I" (some 0) with kind := .array 17 (.array .int), interfaces := #[11, 4], accessFlags := 1041 }

def heap : Heap := #[]
def classes : Array Class := #[k0, k1, k2, k3, k4, k5, k6, k7, k8, k9, k10, k11, k12, k13, k14, k15, k16, k17, k18]
def interned : List (Array UInt16 × Addr) := []
def slotsUsed : Nat := 0
def theMethod : MethodId := ⟨1, 1⟩
def args0 : Array Value := #[.long 5, .long 7, .long 9, .int 11, .int 13]
def aboutOver (below : List Frame) : State where
  vm := { classes := classes, interned := interned.toArray }
  heap := heap
  slotsUsed := slotsUsed
  threads := #[{ frames := .invoking theMethod args0 :: below }]
def below0 : List Frame := [.native { method := ⟨0, 0⟩, args := #[] }]
def about1 : State := aboutOver below0
def p0 : Program := .bare "" "" ""
def e0 : Env := launch0.env 0 0 0
theorem w_frames : about1.frames = Frame.invoking theMethod args0 :: below0 := rfl
set_option maxRecDepth 65536 in
theorem w_args : argsFit about1.vm theMethod args0 = true := by decide +kernel
set_option maxRecDepth 65536 in
theorem w_heap : heapFits about1 = true := by decide +kernel
set_option maxRecDepth 65536 in
theorem w_runnable : about1.curStatus? = some .runnable := by decide +kernel
set_option maxRecDepth 65536 in
theorem w_alone : about1.alone = true := by decide +kernel
set_option maxRecDepth 65536 in
theorem w_named : about1.methodNamed? x = some theMethod := by decide +kernel
set_option maxRecDepth 65536 in
theorem w_hears : about1.hears theMethod below0 = true := by decide +kernel
set_option maxRecDepth 65536 in
theorem w_ripe : about1.ripe theMethod args0 below0 = true := by decide +kernel
theorem w_running : about1.status = .running := rfl
set_option maxRecDepth 65536 in
theorem w_room : about1.hasRoom e0.platform room_1 = true :=
  launch0.hasRoom_least _ room_1 (by decide +kernel) (by decide +kernel) (by decide +kernel) (by decide +kernel) (by decide +kernel) (by decide +kernel)
theorem allAtoms_all (ts : List Jvm.Cond) (a : Array Jvm.Value) (st : Jvm.State) : (allAtoms ts).before a st = ts.all (fun c => c.before a st) := by
  induction ts with
  | nil => rfl
  | cons c t ih =>
    show (Jvm.Cond.and c (allAtoms t)).before a st = _
    rw [Jvm.Cond.before_and, ih, List.all_cons]
def words1 : List Jvm.Cond := Jvm.Cond.code x code maxLocals ret :: tables_1
/-- a 'code' word, met by the world's own term for the bytes: nothing is compared byte by byte -/
theorem code_word {y : MethodName} {bytes : ByteArray} {mx : Nat} {rt : Option FieldType} {a : Array Value} {s : State} {m : MethodId} {meth : Method} {c : Code} (h1 : s.methodNamed? y = some m) (h2 : s.vm.method? m = some meth) (h3 : meth.code = some c) (h4 : c.code = bytes)
    (h5 : (c.maxLocals == mx && c.exceptionTable.isEmpty && decide (c.maxStack ≤ mostOperands) && decide (meth.sig.returnType = rt) && !meth.locks && decide (parseMethodDescriptor y.desc = some meth.sig)) = true) : (Jvm.Cond.code y bytes mx rt).before a s = true := by
  simp only [Bool.and_eq_true, beq_iff_eq, Bool.not_eq_true', decide_eq_true_eq] at h5
  obtain ⟨⟨⟨⟨⟨g1, g2⟩, g3⟩, g4⟩, g5⟩, g6⟩ := h5
  simp [Cond.before, Cond.holds, Cond.value, h1, h2, h3, h4, g1, g2, g3, g4, g5, g6]
def isCode : Jvm.Cond → Bool
  | .code _ _ _ _ => true
  | _ => false
theorem all_split {L : List Jvm.Cond} {P : Jvm.Cond → Bool} (h1 : L.all (fun c => isCode c || P c) = true) (h2 : ∀ c ∈ L.filter isCode, P c = true) : L.all P = true := by
  refine List.all_eq_true.mpr fun c hc => ?_
  have h := List.all_eq_true.mp h1 c hc
  rcases Bool.eq_false_or_eq_true (isCode c) with hi | hi
  · exact h2 c (List.mem_filter.mpr ⟨hc, hi⟩)
  · simpa [hi] using h
set_option maxRecDepth 65536 in
theorem w_c0 : (Jvm.Cond.code x code maxLocals ret).before args0 about1 = true := code_word (m := ⟨1, 1⟩) (meth := k1m1) (c := k1c1) (by decide +kernel) rfl rfl rfl (by decide +kernel)
set_option maxRecDepth 65536 in
theorem w_c1 : (Jvm.Cond.code ({ cls := "com/example/tidemine/tidemine/PatternTrie", name := "<init>", desc := "()V" } : Jvm.MethodName) prog_23_method_1_code (1 : Nat) (Option.none : Option Jvm.ClassFile.FieldType)).before args0 about1 = true := code_word (m := ⟨2, 0⟩) (meth := k2m0) (c := k2c0) (by decide +kernel) rfl rfl rfl (by decide +kernel)
set_option maxRecDepth 65536 in
theorem w_c2 : (Jvm.Cond.code ({ cls := "java/lang/Object", name := "<init>", desc := "()V" } : Jvm.MethodName) object_method_1_code (1 : Nat) (Option.none : Option Jvm.ClassFile.FieldType)).before args0 about1 = true := code_word (m := ⟨0, 0⟩) (meth := k0m0) (c := k0c0) (by decide +kernel) rfl rfl rfl (by decide +kernel)
set_option maxRecDepth 65536 in
theorem w_c3 : (Jvm.Cond.code ({ cls := "com/example/tidemine/tidemine/PatternTrieTruncatePinLaw", name := "build", desc := "(Lcom/example/tidemine/tidemine/PatternTrie;IIIIZIIZZZZ)Z" } : Jvm.MethodName) method_3_code (18 : Nat) (Option.some Jvm.ClassFile.FieldType.boolean)).before args0 about1 = true := code_word (m := ⟨1, 2⟩) (meth := k1m2) (c := k1c2) (by decide +kernel) rfl rfl rfl (by decide +kernel)
set_option maxRecDepth 65536 in
theorem w_c4 : (Jvm.Cond.code ({ cls := "com/example/tidemine/tidemine/PatternTrie", name := "child", desc := "(IIZ)I" } : Jvm.MethodName) prog_23_method_3_code (8 : Nat) (Option.some Jvm.ClassFile.FieldType.int)).before args0 about1 = true := code_word (m := ⟨2, 2⟩) (meth := k2m2) (c := k2c2) (by decide +kernel) rfl rfl rfl (by decide +kernel)
set_option maxRecDepth 65536 in
theorem w_c5 : (Jvm.Cond.code ({ cls := "com/example/tidemine/tidemine/PatternTrie", name := "search", desc := "(IIZ)I" } : Jvm.MethodName) prog_23_method_19_code (11 : Nat) (Option.some Jvm.ClassFile.FieldType.int)).before args0 about1 = true := code_word (m := ⟨2, 4⟩) (meth := k2m4) (c := k2c4) (by decide +kernel) rfl rfl rfl (by decide +kernel)
set_option maxRecDepth 65536 in
theorem w_c6 : (Jvm.Cond.code ({ cls := "java/lang/Integer", name := "compare", desc := "(II)I" } : Jvm.MethodName) jdk_33_method_40_code (2 : Nat) (Option.some Jvm.ClassFile.FieldType.int)).before args0 about1 = true := code_word (m := ⟨9, 0⟩) (meth := k9m0) (c := k9c0) (by decide +kernel) rfl rfl rfl (by decide +kernel)
set_option maxRecDepth 65536 in
theorem w_c7 : (Jvm.Cond.code ({ cls := "com/example/tidemine/tidemine/PatternTrie", name := "truncate", desc := "(I)V" } : Jvm.MethodName) prog_23_method_4_code (8 : Nat) (Option.none : Option Jvm.ClassFile.FieldType)).before args0 about1 = true := code_word (m := ⟨2, 3⟩) (meth := k2m3) (c := k2c3) (by decide +kernel) rfl rfl rfl (by decide +kernel)
set_option maxRecDepth 65536 in
theorem w_c8 : (Jvm.Cond.code ({ cls := "com/example/tidemine/tidemine/PatternTrie", name := "size", desc := "()I" } : Jvm.MethodName) prog_23_method_2_code (1 : Nat) (Option.some Jvm.ClassFile.FieldType.int)).before args0 about1 = true := code_word (m := ⟨2, 1⟩) (meth := k2m1) (c := k2c1) (by decide +kernel) rfl rfl rfl (by decide +kernel)
set_option maxRecDepth 65536 in
theorem w_c9 : (Jvm.Cond.code ({ cls := "java/lang/Boolean", name := "compare", desc := "(ZZ)I" } : Jvm.MethodName) jdk_2055_method_14_code (2 : Nat) (Option.some Jvm.ClassFile.FieldType.int)).before args0 about1 = true := code_word (m := ⟨10, 0⟩) (meth := k10m0) (c := k10c0) (by decide +kernel) rfl rfl rfl (by decide +kernel)
def codes1 : List Jvm.Cond := [Jvm.Cond.code x code maxLocals ret, Jvm.Cond.code ({ cls := "com/example/tidemine/tidemine/PatternTrie", name := "<init>", desc := "()V" } : Jvm.MethodName) prog_23_method_1_code (1 : Nat) (Option.none : Option Jvm.ClassFile.FieldType), Jvm.Cond.code ({ cls := "java/lang/Object", name := "<init>", desc := "()V" } : Jvm.MethodName) object_method_1_code (1 : Nat) (Option.none : Option Jvm.ClassFile.FieldType), Jvm.Cond.code ({ cls := "com/example/tidemine/tidemine/PatternTrieTruncatePinLaw", name := "build", desc := "(Lcom/example/tidemine/tidemine/PatternTrie;IIIIZIIZZZZ)Z" } : Jvm.MethodName) method_3_code (18 : Nat) (Option.some Jvm.ClassFile.FieldType.boolean), Jvm.Cond.code ({ cls := "com/example/tidemine/tidemine/PatternTrie", name := "child", desc := "(IIZ)I" } : Jvm.MethodName) prog_23_method_3_code (8 : Nat) (Option.some Jvm.ClassFile.FieldType.int), Jvm.Cond.code ({ cls := "com/example/tidemine/tidemine/PatternTrie", name := "search", desc := "(IIZ)I" } : Jvm.MethodName) prog_23_method_19_code (11 : Nat) (Option.some Jvm.ClassFile.FieldType.int), Jvm.Cond.code ({ cls := "java/lang/Integer", name := "compare", desc := "(II)I" } : Jvm.MethodName) jdk_33_method_40_code (2 : Nat) (Option.some Jvm.ClassFile.FieldType.int), Jvm.Cond.code ({ cls := "com/example/tidemine/tidemine/PatternTrie", name := "truncate", desc := "(I)V" } : Jvm.MethodName) prog_23_method_4_code (8 : Nat) (Option.none : Option Jvm.ClassFile.FieldType), Jvm.Cond.code ({ cls := "com/example/tidemine/tidemine/PatternTrie", name := "size", desc := "()I" } : Jvm.MethodName) prog_23_method_2_code (1 : Nat) (Option.some Jvm.ClassFile.FieldType.int), Jvm.Cond.code ({ cls := "java/lang/Boolean", name := "compare", desc := "(ZZ)I" } : Jvm.MethodName) jdk_2055_method_14_code (2 : Nat) (Option.some Jvm.ClassFile.FieldType.int)]
set_option maxRecDepth 65536 in
theorem codes_eq : words1.filter isCode = codes1 := rfl
theorem w_codes : ∀ c ∈ words1.filter isCode, c.before args0 about1 = true := by
  rw [codes_eq]
  intro c hc
  simp only [codes1, List.mem_cons, List.not_mem_nil, or_false] at hc
  rcases hc with rfl | rfl | rfl | rfl | rfl | rfl | rfl | rfl | rfl | rfl
  · exact w_c0
  · exact w_c1
  · exact w_c2
  · exact w_c3
  · exact w_c4
  · exact w_c5
  · exact w_c6
  · exact w_c7
  · exact w_c8
  · exact w_c9
set_option maxRecDepth 65536 in
theorem w_t1 : (words1.take 24).all (fun c => isCode c || c.before args0 about1) = true := by decide +kernel
set_option maxRecDepth 65536 in
theorem w_t2 : ((words1.drop 24).take 24).all (fun c => isCode c || c.before args0 about1) = true := by decide +kernel
set_option maxRecDepth 65536 in
theorem w_t3 : ((words1.drop 24).drop 24).all (fun c => isCode c || c.before args0 about1) = true := by decide +kernel
theorem w_tables : (allAtoms (Jvm.Cond.code x code maxLocals ret :: tables_1)).before args0 about1 = true := by
  rw [allAtoms_all]
  show words1.all (fun c => c.before args0 about1) = true
  refine all_split ?_ w_codes
  rw [← List.take_append_drop 24 words1, List.all_append, w_t1, ← List.take_append_drop 24 (words1.drop 24), List.all_append, w_t2, w_t3]
  rfl
set_option maxRecDepth 65536 in
theorem w_case : (Jvm.Cond.and given_1 narrow_1).before args0 about1 = true := by decide +kernel
theorem w_applies : (headSpec (Jvm.Cond.code x code maxLocals ret :: tables_1) room_1).applies x e0.platform about1 = true :=
  (Spec.applies_iff w_frames).mpr ⟨w_running, w_runnable, w_alone, w_named, w_hears, w_ripe, w_room, w_tables⟩
theorem atStart : AtStart classFile x code maxLocals ret World_1 tables_1 room_1 Calls_1 rest_1 Pre_1 launch0 p0 e0 about1 theMethod args0 below0 :=
  ⟨lists_1, trivial, launch0.admits_env _ _ _, launch0.least_env, fairChoices_fair.cas, fairChoices_fair.clock, w_frames, w_args, w_heap, w_applies, trivial, trivial, w_case⟩
end start1
theorem witness_1 : WitnessClaimed_1 := ⟨start1.p0, start1.e0, start1.about1, start1.theMethod, start1.args0, start1.below0, start1.atStart⟩
end Jvm.Pilot.@@N@@
