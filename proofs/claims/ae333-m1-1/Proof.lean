import JvmDerived
import JvmDerived.Pilot.@@N@@Statement
import JvmDerived.Pilot.@@N@@Code
set_option linter.unusedVariables false
set_option linter.unusedSimpArgs false
namespace Jvm.RoadKit
open Sem ClassFile Op Lib Jvm.Stand Jvm.Free Jvm.LawKit
section New
variable {p : Program} {l : Launch} {e : Env} {R : Room} {s : State} {m : MethodId} {args : Array Value} {below : List Frame} {meth : Method} {c : Code} {T : State} {locs : List Loc} {cells slots : Nat}
theorem retI (X : Stand p l e R s m args below meth c T locs cells slots) (hx : p.tables.exec = Jvm.exec) {pc : Nat} {Ls : Array Slot} {z : Int32} {rest : List Value} (hret : meth.sig.returnType = some .int) (hd : decode c.code pc = .ok (.ireturn, 1)) {fs : List Frame}
    (hl : ∀ (f : JFrame) (acts : List Action), f.method = m → f.locked = none → f.entered = [] → (doReturn e (T.setTop f) acts (some (.int z))).1 = T.setFrames fs) : Steps p.tables e below (T.setTop (mkF m pc Ls (.int z :: rest))) (T.setFrames fs) := by
  have hm' : T.vm.method? m = some meth := X.method'
  have hn : narrow .int (.int z) = .int z := rfl
  show Steps p.tables e below (T.setTop { method := m, pc := pc, locals := Ls, stack := _ :: rest, locked := none }) _
  jvm_step X.here [X.here.top, hx, hd, hm', hret, hn]
  first | (intro acts; rw [hl _ acts rfl rfl rfl]) | rw [hl _ _ rfl rfl rfl]
  exact Steps.refl _
abbrev vI (x : Int32) : Slot := .val (.int x)
abbrev vJ (x : Int64) : Slot := .val (.long x)
abbrev vR (x : Addr) : Slot := .val (.ref x)
abbrev iI (x : Int32) : Value := .int x
abbrev iJ (x : Int64) : Value := .long x
abbrev iR (x : Addr) : Value := .ref x
/-- from one frame to another over the same heap -/
def own_Mid (X : Stand p l e R s m args below meth c T locs cells slots) (h : Heap) (F F' : JFrame) : Prop :=
  ∃ T', Stand p l e R s m args below meth c T' locs cells slots ∧ T'.heap = h ∧ ∀ t, Steps p.tables e below (T'.setTop F') t → Steps p.tables e below (T.setTop F) t
end New
end Jvm.RoadKit
namespace Jvm.Pilot.@@N@@
open Jvm Jvm.ClassFile Sem Op Lib Jvm.Free Jvm.Stand Jvm.LawKit Jvm.RoadKit Bundle Jvm.Pilot.@@N@@.Jvm.D
theorem pd_0 : parseMethodDescriptor "(IZ)I" = some ⟨[.int, .boolean], some .int⟩ := by decide +kernel
theorem pd_1 : parseMethodDescriptor "(IZI)Z" = some ⟨[.int, .boolean, .int], some .boolean⟩ := by decide +kernel

def own_fl (p1 : Int32) (p2 : Int32) : Int32 := (((p1.toInt64 * (661971961083 : Int64)) + (if p2 = (0 : Int32) then (1323943922166 : Int64) else (1049200734846 : Int64))) >>> ((41 : Int32) &&& 0x3f).toInt64).toInt32
theorem d1_0 : decode prog_12_method_37_code 0 = .ok (.iload_n 0, 1) := by decide +kernel
theorem d1_1 : decode prog_12_method_37_code 1 = .ok (.i2l, 1) := by decide +kernel
theorem d1_2 : decode prog_12_method_37_code 2 = .ok (.ldc2_w 364, 3) := by decide +kernel
theorem d1_5 : decode prog_12_method_37_code 5 = .ok (.lmul, 1) := by decide +kernel
theorem d1_6 : decode prog_12_method_37_code 6 = .ok (.iload_n 1, 1) := by decide +kernel
theorem d1_7 : decode prog_12_method_37_code 7 = .ok (.ifCond .eq 9, 3) := by decide +kernel
theorem d1_10 : decode prog_12_method_37_code 10 = .ok (.ldc2_w 366, 3) := by decide +kernel
theorem d1_13 : decode prog_12_method_37_code 13 = .ok (.goto 6, 3) := by decide +kernel
theorem d1_16 : decode prog_12_method_37_code 16 = .ok (.ldc2_w 368, 3) := by decide +kernel
theorem d1_19 : decode prog_12_method_37_code 19 = .ok (.ladd, 1) := by decide +kernel
theorem d1_20 : decode prog_12_method_37_code 20 = .ok (.bipush 41, 2) := by decide +kernel
theorem d1_22 : decode prog_12_method_37_code 22 = .ok (.lshr, 1) := by decide +kernel
theorem d1_23 : decode prog_12_method_37_code 23 = .ok (.l2i, 1) := by decide +kernel
theorem d1_24 : decode prog_12_method_37_code 24 = .ok (.ireturn, 1) := by decide +kernel
theorem pn_0 : plainName "com/example/plainjson/plainjson/JsonNumber" = true := by first | (simp [plainName, overriddenIn]; done) | decide +kernel
theorem ef_1 (m : MethodId) (x0 : Int32) (x1 : Int32) : entryFrame m #[(.int x0), (.int x1)] 2 = mkF m 0 #[.val (.int x0), .val (.int x1)] [] := by first | (simp [entryFrame, mkF, argsToLocals, Value.category]; done) | rfl
def Q1 (Z : State) (p1 : Int32) (p2 : Int32) (h0 : Heap) (v : Option Value) (h : Heap) (L : List Loc) : Prop := v = some (.int (own_fl p1 p2)) ∧ L = [] ∧ h = h0
set_option maxRecDepth 65536 in
set_option maxHeartbeats 40000000 in
theorem rm1 (l : Launch) (Z : State) (a0 : Array Value) (hw : ∀ d ∈ tables_1, d.before a0 Z = true) (ws : List Jvm.Cond) (p1 : Int32) (p2 : Int32) (h0 : Heap) :
    MetFree l (⟨"com/example/plainjson/plainjson/JsonNumber", "floorLog10", "(IZ)I"⟩ : MethodName) (head1 (Jvm.Cond.code (⟨"com/example/plainjson/plainjson/JsonNumber", "floorLog10", "(IZ)I"⟩ : MethodName) prog_12_method_37_code 2 (some .int) :: ws) ({ frames := 0, cells := 0, slots := 0, locals := 0 } : Room)) (fun a U => a = #[(.int p1), (.int p2)] ∧ Z.Warmed39 U.vm ∧ U.heap = h0) (fun _ _ _ _ _ => True) (fun _ U o U' => ∃ v L, o = .returned v ∧ Q1 Z p1 p2 h0 v U'.heap L ∧ FrameEnd U o U' L ({ frames := 0, cells := 0, slots := 0, locals := 0 } : Room).cells ({ frames := 0, cells := 0, slots := 0, locals := 0 } : Room).slots) := by
  refine MetFree.of_bodySF (plainFor_of_name pn_0) hisR ?_
  intro p e s m args below meth c s₁ Bd hml0 hP hK
  obtain ⟨rfl, hZ, hh⟩ := hP
  have hx := Bd.exec
  have hby := Bd.bytes
  have hml : c.maxLocals = 2 := hml0
  have hown : s.vm.findClass "com/example/plainjson/plainjson/JsonNumber" = some m.cls := findClass_of_methodNamed Bd.named
  have hnm := (name_of_methodNamed Bd.named Bd.method).1
  have X0 : Stand p l e ({ frames := 0, cells := 0, slots := 0, locals := 0 } : Room) s m #[(.int p1), (.int p2)] below meth c s₁ [] 0 0 := Stand.of_body Bd
  have e0 : s₁.heap = h0 := by rw [← hh, Bd.state]; rfl
  have pre0 : ∀ t, Steps p.tables e below (s₁.setTop (mkF m 0 #[.val (.int p1), .val (.int p2)] [])) t → Steps p.tables e below (s₁.setTop (entryFrame m #[(.int p1), (.int p2)] 2)) t := fun t k => castTop (ef_1 m p1 p2) k
  obtain ⟨v1, hv1⟩ : ∃ z : Int64, z = (if p2 = (0 : Int32) then (1323943922166 : Int64) else (1049200734846 : Int64)) := ⟨_, rfl⟩
  obtain ⟨T2, X2, e2, st2⟩ : own_Mid X0 h0 (mkF m 7 #[vI p1, vI p2] [iI p2, iJ (p1.toInt64 * (661971961083 : Int64))]) (mkF m 19 #[vI p1, vI p2] [iJ v1, iJ (p1.toInt64 * (661971961083 : Int64))]) := by
    by_cases hc3 : p2 = (0 : Int32)
    · refine ⟨s₁, X0, e0, fun t kt => ?_⟩
      subst hv1
      simp only [if_pos hc3] at kt
      show Steps _ _ _ (s₁.setTop (mkF m 7 #[vI p1, vI p2] [iI p2, iJ (p1.toInt64 * (661971961083 : Int64))])) _
      refine XS.ifYes X0.here hx rfl (pc0 := 7) (pc' := 16) rfl (hb hby d1_7) rfl ((if0 _ _).trans (teq hc3).1) (by decide) (by decide) ?_
      show Steps _ _ _ (s₁.setTop (mkF m 16 #[vI p1, vI p2] [iJ (p1.toInt64 * (661971961083 : Int64))])) _
      refine X0.ldc2Long hx hown (mvT hZ (hw _ (List.mem_of_getElem? (i := 36) rfl))) (g := (mkF m 16 #[vI p1, vI p2] [iJ (p1.toInt64 * (661971961083 : Int64))])) rfl (hb hby d1_16) _ ?_
      exact kt
    · refine ⟨s₁, X0, e0, fun t kt => ?_⟩
      subst hv1
      simp only [if_neg hc3] at kt
      show Steps _ _ _ (s₁.setTop (mkF m 7 #[vI p1, vI p2] [iI p2, iJ (p1.toInt64 * (661971961083 : Int64))])) _
      refine XS.ifNo X0.here hx rfl (hb hby d1_7) rfl ((if0 _ _).trans (feq hc3).1) ?_
      show Steps _ _ _ (s₁.setTop (mkF m 10 #[vI p1, vI p2] [iJ (p1.toInt64 * (661971961083 : Int64))])) _
      refine X0.ldc2Long hx hown (mvT hZ (hw _ (List.mem_of_getElem? (i := 6) rfl))) (g := (mkF m 10 #[vI p1, vI p2] [iJ (p1.toInt64 * (661971961083 : Int64))])) rfl (hb hby d1_10) _ ?_
      show Steps _ _ _ (s₁.setTop (mkF m 13 #[vI p1, vI p2] [iJ 1049200734846, iJ (p1.toInt64 * (661971961083 : Int64))])) _
      refine XS.goto X0.here hx rfl (pc0 := 13) (pc' := 19) rfl (hb hby d1_13) (by decide) (by decide) ?_
      exact kt
  obtain ⟨fs, hr, hrun, hended, hW, hsame⟩ := X2.leave (v := some (.int (((p1.toInt64 * (661971961083 : Int64)) + v1) >>> ((41 : Int32) &&& 0x3f).toInt64).toInt32)) (fun h => by rw [Bd.returns] at h; cases h)
  refine ⟨_, _, pre0 _ ?_, hrun, hended, _, _, rfl, ?_, ⟨_, rfl⟩, hW, hsame.mono (by decide) (by decide)⟩
  · show Steps _ _ _ (s₁.setTop (mkF m 0 #[vI p1, vI p2] [])) _
    refine XS.iloadN X0.here hx rfl (hb hby d1_0) rfl ?_
    show Steps _ _ _ (s₁.setTop (mkF m 1 #[vI p1, vI p2] [iI p1])) _
    refine XS.i2l X0.here hx rfl (hb hby d1_1) rfl ?_
    show Steps _ _ _ (s₁.setTop (mkF m 2 #[vI p1, vI p2] [iJ p1.toInt64])) _
    refine X0.ldc2Long hx hown (mvT hZ (hw _ (List.mem_of_getElem? (i := 5) rfl))) (g := (mkF m 2 #[vI p1, vI p2] [iJ p1.toInt64])) rfl (hb hby d1_2) _ ?_
    show Steps _ _ _ (s₁.setTop (mkF m 5 #[vI p1, vI p2] [iJ 661971961083, iJ p1.toInt64])) _
    refine XS.lmul X0.here hx rfl (hb hby d1_5) rfl ?_
    show Steps _ _ _ (s₁.setTop (mkF m 6 #[vI p1, vI p2] [iJ (p1.toInt64 * (661971961083 : Int64))])) _
    refine XS.iloadN X0.here hx rfl (hb hby d1_6) rfl ?_
    show Steps _ _ _ (s₁.setTop (mkF m 7 #[vI p1, vI p2] [iI p2, iJ (p1.toInt64 * (661971961083 : Int64))])) _
    refine st2 _ ?_
    show Steps _ _ _ (T2.setTop (mkF m 19 #[vI p1, vI p2] [iJ v1, iJ (p1.toInt64 * (661971961083 : Int64))])) _
    refine XS.ladd X2.here hx rfl (hb hby d1_19) rfl ?_
    show Steps _ _ _ (T2.setTop (mkF m 20 #[vI p1, vI p2] [iJ ((p1.toInt64 * (661971961083 : Int64)) + v1)])) _
    refine XS.bipush X2.here hx rfl (hb hby d1_20) ?_
    show Steps _ _ _ (T2.setTop (mkF m 22 #[vI p1, vI p2] [iI 41, iJ ((p1.toInt64 * (661971961083 : Int64)) + v1)])) _
    refine XS.lshr X2.here hx rfl (hb hby d1_22) rfl ?_
    show Steps _ _ _ (T2.setTop (mkF m 23 #[vI p1, vI p2] [iJ (((p1.toInt64 * (661971961083 : Int64)) + v1) >>> ((41 : Int32) &&& 0x3f).toInt64)])) _
    refine XS.l2i X2.here hx rfl (hb hby d1_23) rfl ?_
    show Steps _ _ _ (T2.setTop (mkF m 24 #[vI p1, vI p2] [iI (((p1.toInt64 * (661971961083 : Int64)) + v1) >>> ((41 : Int32) &&& 0x3f).toInt64).toInt32])) _
    exact retI X2 hx Bd.returns (hb hby d1_24) hr
  · show Q1 Z p1 p2 h0 _ T2.heap _
    rw [e2]
    exact ⟨by subst hv1; first | rfl | (simp only [own_fl]; done) | (simp only [own_fl]; rfl) | (simp only [own_fl, nar] ; first | rfl | (simp; done) | decide), rfl, rfl⟩
def own_sand (p1 : Int32) (p2 : Int32) (p3 : Int32) : Int32 := (if p2 = (0 : Int32) then (nar .boolean (if p3.toInt64 < ((if (p1.toInt64 + (2 : Int64)) < (0 : Int64) then ((p1.toInt64 + (2 : Int64)) * (661971961084 : Int64)) else ((p1.toInt64 + (2 : Int64)) * (661971961083 : Int64))) >>> ((41 : Int32) &&& 0x3f).toInt64) then (0 : Int32) else (if ((if (p1.toInt64 + (2 : Int64)) < (0 : Int64) then ((p1.toInt64 + (2 : Int64)) * (661971961083 : Int64)) else ((p1.toInt64 + (2 : Int64)) * (661971961084 : Int64))) >>> ((41 : Int32) &&& 0x3f).toInt64) < p3.toInt64 then (0 : Int32) else (1 : Int32)))) else (nar .boolean (if p3.toInt64 < ((if p1 < (0 : Int32) then ((p1.toInt64 * (661971961084 : Int64)) + (1049200734846 : Int64)) else ((p1.toInt64 * (661971961083 : Int64)) + (1049200734846 : Int64))) >>> ((41 : Int32) &&& 0x3f).toInt64) then (0 : Int32) else (if ((if p1 < (0 : Int32) then (((p1.toInt64 * (661971961083 : Int64)) + (1049200734846 : Int64)) + (1 : Int64)) else (((p1.toInt64 * (661971961084 : Int64)) + (1049200734846 : Int64)) + (1 : Int64))) >>> ((41 : Int32) &&& 0x3f).toInt64) < p3.toInt64 then (0 : Int32) else (1 : Int32)))))
theorem d2_0 : decode method_3_code 0 = .ok (.ldc2_w 23, 3) := by decide +kernel
theorem d2_3 : decode method_3_code 3 = .ok (.lstore_n 3, 1) := by decide +kernel
theorem d2_4 : decode method_3_code 4 = .ok (.ldc2_w 25, 3) := by decide +kernel
theorem d2_7 : decode method_3_code 7 = .ok (.lstore 5, 2) := by decide +kernel
theorem d2_9 : decode method_3_code 9 = .ok (.iload_n 1, 1) := by decide +kernel
theorem d2_10 : decode method_3_code 10 = .ok (.ifCond .eq 57, 3) := by decide +kernel
theorem d2_13 : decode method_3_code 13 = .ok (.iload_n 0, 1) := by decide +kernel
theorem d2_14 : decode method_3_code 14 = .ok (.ifCond .lt 28, 3) := by decide +kernel
theorem d2_17 : decode method_3_code 17 = .ok (.iload_n 0, 1) := by decide +kernel
theorem d2_18 : decode method_3_code 18 = .ok (.i2l, 1) := by decide +kernel
theorem d2_19 : decode method_3_code 19 = .ok (.lload_n 3, 1) := by decide +kernel
theorem d2_20 : decode method_3_code 20 = .ok (.lmul, 1) := by decide +kernel
theorem d2_21 : decode method_3_code 21 = .ok (.lload 5, 2) := by decide +kernel
theorem d2_23 : decode method_3_code 23 = .ok (.ladd, 1) := by decide +kernel
theorem d2_24 : decode method_3_code 24 = .ok (.lstore 7, 2) := by decide +kernel
theorem d2_26 : decode method_3_code 26 = .ok (.iload_n 0, 1) := by decide +kernel
theorem d2_27 : decode method_3_code 27 = .ok (.i2l, 1) := by decide +kernel
theorem d2_28 : decode method_3_code 28 = .ok (.lload_n 3, 1) := by decide +kernel
theorem d2_29 : decode method_3_code 29 = .ok (.lconst 1, 1) := by decide +kernel
theorem d2_30 : decode method_3_code 30 = .ok (.ladd, 1) := by decide +kernel
theorem d2_31 : decode method_3_code 31 = .ok (.lmul, 1) := by decide +kernel
theorem d2_32 : decode method_3_code 32 = .ok (.lload 5, 2) := by decide +kernel
theorem d2_34 : decode method_3_code 34 = .ok (.ladd, 1) := by decide +kernel
theorem d2_35 : decode method_3_code 35 = .ok (.lconst 1, 1) := by decide +kernel
theorem d2_36 : decode method_3_code 36 = .ok (.ladd, 1) := by decide +kernel
theorem d2_37 : decode method_3_code 37 = .ok (.lstore 9, 2) := by decide +kernel
theorem d2_39 : decode method_3_code 39 = .ok (.goto 74, 3) := by decide +kernel
theorem d2_42 : decode method_3_code 42 = .ok (.iload_n 0, 1) := by decide +kernel
theorem d2_43 : decode method_3_code 43 = .ok (.i2l, 1) := by decide +kernel
theorem d2_44 : decode method_3_code 44 = .ok (.lload_n 3, 1) := by decide +kernel
theorem d2_45 : decode method_3_code 45 = .ok (.lconst 1, 1) := by decide +kernel
theorem d2_46 : decode method_3_code 46 = .ok (.ladd, 1) := by decide +kernel
theorem d2_47 : decode method_3_code 47 = .ok (.lmul, 1) := by decide +kernel
theorem d2_48 : decode method_3_code 48 = .ok (.lload 5, 2) := by decide +kernel
theorem d2_50 : decode method_3_code 50 = .ok (.ladd, 1) := by decide +kernel
theorem d2_51 : decode method_3_code 51 = .ok (.lstore 7, 2) := by decide +kernel
theorem d2_53 : decode method_3_code 53 = .ok (.iload_n 0, 1) := by decide +kernel
theorem d2_54 : decode method_3_code 54 = .ok (.i2l, 1) := by decide +kernel
theorem d2_55 : decode method_3_code 55 = .ok (.lload_n 3, 1) := by decide +kernel
theorem d2_56 : decode method_3_code 56 = .ok (.lmul, 1) := by decide +kernel
theorem d2_57 : decode method_3_code 57 = .ok (.lload 5, 2) := by decide +kernel
theorem d2_59 : decode method_3_code 59 = .ok (.ladd, 1) := by decide +kernel
theorem d2_60 : decode method_3_code 60 = .ok (.lconst 1, 1) := by decide +kernel
theorem d2_61 : decode method_3_code 61 = .ok (.ladd, 1) := by decide +kernel
theorem d2_62 : decode method_3_code 62 = .ok (.lstore 9, 2) := by decide +kernel
theorem d2_64 : decode method_3_code 64 = .ok (.goto 49, 3) := by decide +kernel
theorem d2_67 : decode method_3_code 67 = .ok (.iload_n 0, 1) := by decide +kernel
theorem d2_68 : decode method_3_code 68 = .ok (.i2l, 1) := by decide +kernel
theorem d2_69 : decode method_3_code 69 = .ok (.ldc2_w 27, 3) := by decide +kernel
theorem d2_72 : decode method_3_code 72 = .ok (.ladd, 1) := by decide +kernel
theorem d2_73 : decode method_3_code 73 = .ok (.lstore 11, 2) := by decide +kernel
theorem d2_75 : decode method_3_code 75 = .ok (.lload 11, 2) := by decide +kernel
theorem d2_77 : decode method_3_code 77 = .ok (.lconst 0, 1) := by decide +kernel
theorem d2_78 : decode method_3_code 78 = .ok (.lcmp, 1) := by decide +kernel
theorem d2_79 : decode method_3_code 79 = .ok (.ifCond .lt 20, 3) := by decide +kernel
theorem d2_82 : decode method_3_code 82 = .ok (.lload 11, 2) := by decide +kernel
theorem d2_84 : decode method_3_code 84 = .ok (.lload_n 3, 1) := by decide +kernel
theorem d2_85 : decode method_3_code 85 = .ok (.lmul, 1) := by decide +kernel
theorem d2_86 : decode method_3_code 86 = .ok (.lstore 7, 2) := by decide +kernel
theorem d2_88 : decode method_3_code 88 = .ok (.lload 11, 2) := by decide +kernel
theorem d2_90 : decode method_3_code 90 = .ok (.lload_n 3, 1) := by decide +kernel
theorem d2_91 : decode method_3_code 91 = .ok (.lconst 1, 1) := by decide +kernel
theorem d2_92 : decode method_3_code 92 = .ok (.ladd, 1) := by decide +kernel
theorem d2_93 : decode method_3_code 93 = .ok (.lmul, 1) := by decide +kernel
theorem d2_94 : decode method_3_code 94 = .ok (.lstore 9, 2) := by decide +kernel
theorem d2_96 : decode method_3_code 96 = .ok (.goto 17, 3) := by decide +kernel
theorem d2_99 : decode method_3_code 99 = .ok (.lload 11, 2) := by decide +kernel
theorem d2_101 : decode method_3_code 101 = .ok (.lload_n 3, 1) := by decide +kernel
theorem d2_102 : decode method_3_code 102 = .ok (.lconst 1, 1) := by decide +kernel
theorem d2_103 : decode method_3_code 103 = .ok (.ladd, 1) := by decide +kernel
theorem d2_104 : decode method_3_code 104 = .ok (.lmul, 1) := by decide +kernel
theorem d2_105 : decode method_3_code 105 = .ok (.lstore 7, 2) := by decide +kernel
theorem d2_107 : decode method_3_code 107 = .ok (.lload 11, 2) := by decide +kernel
theorem d2_109 : decode method_3_code 109 = .ok (.lload_n 3, 1) := by decide +kernel
theorem d2_110 : decode method_3_code 110 = .ok (.lmul, 1) := by decide +kernel
theorem d2_111 : decode method_3_code 111 = .ok (.lstore 9, 2) := by decide +kernel
theorem d2_113 : decode method_3_code 113 = .ok (.lload 7, 2) := by decide +kernel
theorem d2_115 : decode method_3_code 115 = .ok (.bipush 41, 2) := by decide +kernel
theorem d2_117 : decode method_3_code 117 = .ok (.lshr, 1) := by decide +kernel
theorem d2_118 : decode method_3_code 118 = .ok (.iload_n 2, 1) := by decide +kernel
theorem d2_119 : decode method_3_code 119 = .ok (.i2l, 1) := by decide +kernel
theorem d2_120 : decode method_3_code 120 = .ok (.lcmp, 1) := by decide +kernel
theorem d2_121 : decode method_3_code 121 = .ok (.ifCond .gt 18, 3) := by decide +kernel
theorem d2_124 : decode method_3_code 124 = .ok (.iload_n 2, 1) := by decide +kernel
theorem d2_125 : decode method_3_code 125 = .ok (.i2l, 1) := by decide +kernel
theorem d2_126 : decode method_3_code 126 = .ok (.lload 9, 2) := by decide +kernel
theorem d2_128 : decode method_3_code 128 = .ok (.bipush 41, 2) := by decide +kernel
theorem d2_130 : decode method_3_code 130 = .ok (.lshr, 1) := by decide +kernel
theorem d2_131 : decode method_3_code 131 = .ok (.lcmp, 1) := by decide +kernel
theorem d2_132 : decode method_3_code 132 = .ok (.ifCond .gt 7, 3) := by decide +kernel
theorem d2_135 : decode method_3_code 135 = .ok (.iconst 1, 1) := by decide +kernel
theorem d2_136 : decode method_3_code 136 = .ok (.goto 4, 3) := by decide +kernel
theorem d2_139 : decode method_3_code 139 = .ok (.iconst 0, 1) := by decide +kernel
theorem d2_140 : decode method_3_code 140 = .ok (.ireturn, 1) := by decide +kernel
theorem pn_1 : plainName "com/example/plainjson/plainjson/JsonNumberFloorLog10PinLaw" = true := by first | (simp [plainName, overriddenIn]; done) | decide +kernel
theorem ef_2 (m : MethodId) (x0 : Int32) (x1 : Int32) (x2 : Int32) : entryFrame m #[(.int x0), (.int x1), (.int x2)] 13 = mkF m 0 #[.val (.int x0), .val (.int x1), .val (.int x2), .unset, .unset, .unset, .unset, .unset, .unset, .unset, .unset, .unset, .unset] [] := by first | (simp [entryFrame, mkF, argsToLocals, Value.category]; done) | rfl
def Q2 (Z : State) (p1 : Int32) (p2 : Int32) (p3 : Int32) (h0 : Heap) (v : Option Value) (h : Heap) (L : List Loc) : Prop := v = some (.int (own_sand p1 p2 p3)) ∧ L = [] ∧ h = h0
set_option maxRecDepth 65536 in
set_option maxHeartbeats 40000000 in
theorem rm2 (l : Launch) (Z : State) (a0 : Array Value) (hw : ∀ d ∈ tables_1, d.before a0 Z = true) (ws : List Jvm.Cond) (p1 : Int32) (p2 : Int32) (p3 : Int32) (h0 : Heap) :
    MetFree l (⟨"com/example/plainjson/plainjson/JsonNumberFloorLog10PinLaw", "sandwich", "(IZI)Z"⟩ : MethodName) (head1 (Jvm.Cond.code (⟨"com/example/plainjson/plainjson/JsonNumberFloorLog10PinLaw", "sandwich", "(IZI)Z"⟩ : MethodName) method_3_code 13 (some .boolean) :: ws) ({ frames := 0, cells := 0, slots := 0, locals := 0 } : Room)) (fun a U => a = #[(.int p1), (.int p2), (.int p3)] ∧ Z.Warmed39 U.vm ∧ U.heap = h0) (fun _ _ _ _ _ => True) (fun _ U o U' => ∃ v L, o = .returned v ∧ Q2 Z p1 p2 p3 h0 v U'.heap L ∧ FrameEnd U o U' L ({ frames := 0, cells := 0, slots := 0, locals := 0 } : Room).cells ({ frames := 0, cells := 0, slots := 0, locals := 0 } : Room).slots) := by
  refine MetFree.of_bodySF (plainFor_of_name pn_1) hisR ?_
  intro p e s m args below meth c s₁ Bd hml0 hP hK
  obtain ⟨rfl, hZ, hh⟩ := hP
  have hx := Bd.exec
  have hby := Bd.bytes
  have hml : c.maxLocals = 13 := hml0
  have hown : s.vm.findClass "com/example/plainjson/plainjson/JsonNumberFloorLog10PinLaw" = some m.cls := findClass_of_methodNamed Bd.named
  have hnm := (name_of_methodNamed Bd.named Bd.method).1
  have X0 : Stand p l e ({ frames := 0, cells := 0, slots := 0, locals := 0 } : Room) s m #[(.int p1), (.int p2), (.int p3)] below meth c s₁ [] 0 0 := Stand.of_body Bd
  have e0 : s₁.heap = h0 := by rw [← hh, Bd.state]; rfl
  have pre0 : ∀ t, Steps p.tables e below (s₁.setTop (mkF m 0 #[.val (.int p1), .val (.int p2), .val (.int p3), .unset, .unset, .unset, .unset, .unset, .unset, .unset, .unset, .unset, .unset] [])) t → Steps p.tables e below (s₁.setTop (entryFrame m #[(.int p1), (.int p2), (.int p3)] 13)) t := fun t k => castTop (ef_2 m p1 p2 p3) k
  have pre2 : ∀ t, Steps p.tables e below (s₁.setTop (mkF m 10 #[vI p1, vI p2, vI p3, vJ 661971961083, .second, vJ 1049200734846, .second, .unset, .unset, .unset, .unset, .unset, .unset] [iI p2])) t → Steps p.tables e below (s₁.setTop (entryFrame m #[(.int p1), (.int p2), (.int p3)] 13)) t := by
    intro t kt
    refine pre0 t ?_
    show Steps _ _ _ (s₁.setTop (mkF m 0 #[vI p1, vI p2, vI p3, .unset, .unset, .unset, .unset, .unset, .unset, .unset, .unset, .unset, .unset] [])) _
    refine X0.ldc2Long hx hown (mvT hZ (hw _ (List.mem_of_getElem? (i := 11) rfl))) (g := (mkF m 0 #[vI p1, vI p2, vI p3, .unset, .unset, .unset, .unset, .unset, .unset, .unset, .unset, .unset, .unset] [])) rfl (hb hby d2_0) _ ?_
    show Steps _ _ _ (s₁.setTop (mkF m 3 #[vI p1, vI p2, vI p3, .unset, .unset, .unset, .unset, .unset, .unset, .unset, .unset, .unset, .unset] [iJ 661971961083])) _
    refine XS.lstoreN X0.here hx rfl (hb hby d2_3) rfl (l' := #[vI p1, vI p2, vI p3, vJ 661971961083, .second, .unset, .unset, .unset, .unset, .unset, .unset, .unset, .unset]) rfl ?_
    show Steps _ _ _ (s₁.setTop (mkF m 4 #[vI p1, vI p2, vI p3, vJ 661971961083, .second, .unset, .unset, .unset, .unset, .unset, .unset, .unset, .unset] [])) _
    refine X0.ldc2Long hx hown (mvT hZ (hw _ (List.mem_of_getElem? (i := 12) rfl))) (g := (mkF m 4 #[vI p1, vI p2, vI p3, vJ 661971961083, .second, .unset, .unset, .unset, .unset, .unset, .unset, .unset, .unset] [])) rfl (hb hby d2_4) _ ?_
    show Steps _ _ _ (s₁.setTop (mkF m 7 #[vI p1, vI p2, vI p3, vJ 661971961083, .second, .unset, .unset, .unset, .unset, .unset, .unset, .unset, .unset] [iJ 1049200734846])) _
    refine XS.lstore X0.here hx rfl (hb hby d2_7) rfl (l' := #[vI p1, vI p2, vI p3, vJ 661971961083, .second, vJ 1049200734846, .second, .unset, .unset, .unset, .unset, .unset, .unset]) rfl ?_
    show Steps _ _ _ (s₁.setTop (mkF m 9 #[vI p1, vI p2, vI p3, vJ 661971961083, .second, vJ 1049200734846, .second, .unset, .unset, .unset, .unset, .unset, .unset] [])) _
    refine XS.iloadN X0.here hx rfl (hb hby d2_9) rfl ?_
    exact kt
  by_cases hc1 : p2 = (0 : Int32)
  · obtain ⟨v3, hv3⟩ : ∃ z : Int64, z = (if (p1.toInt64 + (2 : Int64)) < (0 : Int64) then ((p1.toInt64 + (2 : Int64)) * (661971961084 : Int64)) else ((p1.toInt64 + (2 : Int64)) * (661971961083 : Int64))) := ⟨_, rfl⟩
    obtain ⟨v4, hv4⟩ : ∃ z : Int64, z = (if (p1.toInt64 + (2 : Int64)) < (0 : Int64) then ((p1.toInt64 + (2 : Int64)) * (661971961083 : Int64)) else ((p1.toInt64 + (2 : Int64)) * (661971961084 : Int64))) := ⟨_, rfl⟩
    obtain ⟨T5, X5, e5, st5⟩ : own_Mid X0 h0 (mkF m 79 #[vI p1, vI p2, vI p3, vJ 661971961083, .second, vJ 1049200734846, .second, .unset, .unset, .unset, .unset, vJ (p1.toInt64 + (2 : Int64)), .second] [iI (lcmpW (p1.toInt64 + (2 : Int64)) (0 : Int64))]) (mkF m 113 #[vI p1, vI p2, vI p3, vJ 661971961083, .second, vJ 1049200734846, .second, vJ v3, .second, vJ v4, .second, vJ (p1.toInt64 + (2 : Int64)), .second] []) := by
      by_cases hc6 : (p1.toInt64 + (2 : Int64)) < (0 : Int64)
      · refine ⟨s₁, X0, e0, fun t kt => ?_⟩
        subst hv3 hv4
        simp only [if_pos hc6] at kt
        show Steps _ _ _ (s₁.setTop (mkF m 79 #[vI p1, vI p2, vI p3, vJ 661971961083, .second, vJ 1049200734846, .second, .unset, .unset, .unset, .unset, vJ (p1.toInt64 + (2 : Int64)), .second] [iI (lcmpW (p1.toInt64 + (2 : Int64)) (0 : Int64))])) _
        refine XS.ifYes X0.here hx rfl (pc0 := 79) (pc' := 99) rfl (hb hby d2_79) rfl ((if0 _ _).trans (tlt ((lw_lt _ _).mpr hc6)).1) (by decide) (by decide) ?_
        show Steps _ _ _ (s₁.setTop (mkF m 99 #[vI p1, vI p2, vI p3, vJ 661971961083, .second, vJ 1049200734846, .second, .unset, .unset, .unset, .unset, vJ (p1.toInt64 + (2 : Int64)), .second] [])) _
        refine XS.lload X0.here hx rfl (hb hby d2_99) rfl ?_
        show Steps _ _ _ (s₁.setTop (mkF m 101 #[vI p1, vI p2, vI p3, vJ 661971961083, .second, vJ 1049200734846, .second, .unset, .unset, .unset, .unset, vJ (p1.toInt64 + (2 : Int64)), .second] [iJ (p1.toInt64 + (2 : Int64))])) _
        refine XS.lloadN X0.here hx rfl (hb hby d2_101) rfl ?_
        show Steps _ _ _ (s₁.setTop (mkF m 102 #[vI p1, vI p2, vI p3, vJ 661971961083, .second, vJ 1049200734846, .second, .unset, .unset, .unset, .unset, vJ (p1.toInt64 + (2 : Int64)), .second] [iJ 661971961083, iJ (p1.toInt64 + (2 : Int64))])) _
        refine XS.lconst X0.here hx rfl (hb hby d2_102) ?_
        show Steps _ _ _ (s₁.setTop (mkF m 103 #[vI p1, vI p2, vI p3, vJ 661971961083, .second, vJ 1049200734846, .second, .unset, .unset, .unset, .unset, vJ (p1.toInt64 + (2 : Int64)), .second] [iJ 1, iJ 661971961083, iJ (p1.toInt64 + (2 : Int64))])) _
        refine XS.ladd X0.here hx rfl (hb hby d2_103) rfl ?_
        rw [(by decide : ((661971961083 : Int64) + (1 : Int64)) = (661971961084 : Int64))]
        show Steps _ _ _ (s₁.setTop (mkF m 104 #[vI p1, vI p2, vI p3, vJ 661971961083, .second, vJ 1049200734846, .second, .unset, .unset, .unset, .unset, vJ (p1.toInt64 + (2 : Int64)), .second] [iJ 661971961084, iJ (p1.toInt64 + (2 : Int64))])) _
        refine XS.lmul X0.here hx rfl (hb hby d2_104) rfl ?_
        show Steps _ _ _ (s₁.setTop (mkF m 105 #[vI p1, vI p2, vI p3, vJ 661971961083, .second, vJ 1049200734846, .second, .unset, .unset, .unset, .unset, vJ (p1.toInt64 + (2 : Int64)), .second] [iJ ((p1.toInt64 + (2 : Int64)) * (661971961084 : Int64))])) _
        refine XS.lstore X0.here hx rfl (hb hby d2_105) rfl (l' := #[vI p1, vI p2, vI p3, vJ 661971961083, .second, vJ 1049200734846, .second, vJ ((p1.toInt64 + (2 : Int64)) * (661971961084 : Int64)), .second, .unset, .unset, vJ (p1.toInt64 + (2 : Int64)), .second]) rfl ?_
        show Steps _ _ _ (s₁.setTop (mkF m 107 #[vI p1, vI p2, vI p3, vJ 661971961083, .second, vJ 1049200734846, .second, vJ ((p1.toInt64 + (2 : Int64)) * (661971961084 : Int64)), .second, .unset, .unset, vJ (p1.toInt64 + (2 : Int64)), .second] [])) _
        refine XS.lload X0.here hx rfl (hb hby d2_107) rfl ?_
        show Steps _ _ _ (s₁.setTop (mkF m 109 #[vI p1, vI p2, vI p3, vJ 661971961083, .second, vJ 1049200734846, .second, vJ ((p1.toInt64 + (2 : Int64)) * (661971961084 : Int64)), .second, .unset, .unset, vJ (p1.toInt64 + (2 : Int64)), .second] [iJ (p1.toInt64 + (2 : Int64))])) _
        refine XS.lloadN X0.here hx rfl (hb hby d2_109) rfl ?_
        show Steps _ _ _ (s₁.setTop (mkF m 110 #[vI p1, vI p2, vI p3, vJ 661971961083, .second, vJ 1049200734846, .second, vJ ((p1.toInt64 + (2 : Int64)) * (661971961084 : Int64)), .second, .unset, .unset, vJ (p1.toInt64 + (2 : Int64)), .second] [iJ 661971961083, iJ (p1.toInt64 + (2 : Int64))])) _
        refine XS.lmul X0.here hx rfl (hb hby d2_110) rfl ?_
        show Steps _ _ _ (s₁.setTop (mkF m 111 #[vI p1, vI p2, vI p3, vJ 661971961083, .second, vJ 1049200734846, .second, vJ ((p1.toInt64 + (2 : Int64)) * (661971961084 : Int64)), .second, .unset, .unset, vJ (p1.toInt64 + (2 : Int64)), .second] [iJ ((p1.toInt64 + (2 : Int64)) * (661971961083 : Int64))])) _
        refine XS.lstore X0.here hx rfl (hb hby d2_111) rfl (l' := #[vI p1, vI p2, vI p3, vJ 661971961083, .second, vJ 1049200734846, .second, vJ ((p1.toInt64 + (2 : Int64)) * (661971961084 : Int64)), .second, vJ ((p1.toInt64 + (2 : Int64)) * (661971961083 : Int64)), .second, vJ (p1.toInt64 + (2 : Int64)), .second]) rfl ?_
        exact kt
      · refine ⟨s₁, X0, e0, fun t kt => ?_⟩
        subst hv3 hv4
        simp only [if_neg hc6] at kt
        show Steps _ _ _ (s₁.setTop (mkF m 79 #[vI p1, vI p2, vI p3, vJ 661971961083, .second, vJ 1049200734846, .second, .unset, .unset, .unset, .unset, vJ (p1.toInt64 + (2 : Int64)), .second] [iI (lcmpW (p1.toInt64 + (2 : Int64)) (0 : Int64))])) _
        refine XS.ifNo X0.here hx rfl (hb hby d2_79) rfl ((if0 _ _).trans (flt (mt (lw_lt _ _).mp hc6)).1) ?_
        show Steps _ _ _ (s₁.setTop (mkF m 82 #[vI p1, vI p2, vI p3, vJ 661971961083, .second, vJ 1049200734846, .second, .unset, .unset, .unset, .unset, vJ (p1.toInt64 + (2 : Int64)), .second] [])) _
        refine XS.lload X0.here hx rfl (hb hby d2_82) rfl ?_
        show Steps _ _ _ (s₁.setTop (mkF m 84 #[vI p1, vI p2, vI p3, vJ 661971961083, .second, vJ 1049200734846, .second, .unset, .unset, .unset, .unset, vJ (p1.toInt64 + (2 : Int64)), .second] [iJ (p1.toInt64 + (2 : Int64))])) _
        refine XS.lloadN X0.here hx rfl (hb hby d2_84) rfl ?_
        show Steps _ _ _ (s₁.setTop (mkF m 85 #[vI p1, vI p2, vI p3, vJ 661971961083, .second, vJ 1049200734846, .second, .unset, .unset, .unset, .unset, vJ (p1.toInt64 + (2 : Int64)), .second] [iJ 661971961083, iJ (p1.toInt64 + (2 : Int64))])) _
        refine XS.lmul X0.here hx rfl (hb hby d2_85) rfl ?_
        show Steps _ _ _ (s₁.setTop (mkF m 86 #[vI p1, vI p2, vI p3, vJ 661971961083, .second, vJ 1049200734846, .second, .unset, .unset, .unset, .unset, vJ (p1.toInt64 + (2 : Int64)), .second] [iJ ((p1.toInt64 + (2 : Int64)) * (661971961083 : Int64))])) _
        refine XS.lstore X0.here hx rfl (hb hby d2_86) rfl (l' := #[vI p1, vI p2, vI p3, vJ 661971961083, .second, vJ 1049200734846, .second, vJ ((p1.toInt64 + (2 : Int64)) * (661971961083 : Int64)), .second, .unset, .unset, vJ (p1.toInt64 + (2 : Int64)), .second]) rfl ?_
        show Steps _ _ _ (s₁.setTop (mkF m 88 #[vI p1, vI p2, vI p3, vJ 661971961083, .second, vJ 1049200734846, .second, vJ ((p1.toInt64 + (2 : Int64)) * (661971961083 : Int64)), .second, .unset, .unset, vJ (p1.toInt64 + (2 : Int64)), .second] [])) _
        refine XS.lload X0.here hx rfl (hb hby d2_88) rfl ?_
        show Steps _ _ _ (s₁.setTop (mkF m 90 #[vI p1, vI p2, vI p3, vJ 661971961083, .second, vJ 1049200734846, .second, vJ ((p1.toInt64 + (2 : Int64)) * (661971961083 : Int64)), .second, .unset, .unset, vJ (p1.toInt64 + (2 : Int64)), .second] [iJ (p1.toInt64 + (2 : Int64))])) _
        refine XS.lloadN X0.here hx rfl (hb hby d2_90) rfl ?_
        show Steps _ _ _ (s₁.setTop (mkF m 91 #[vI p1, vI p2, vI p3, vJ 661971961083, .second, vJ 1049200734846, .second, vJ ((p1.toInt64 + (2 : Int64)) * (661971961083 : Int64)), .second, .unset, .unset, vJ (p1.toInt64 + (2 : Int64)), .second] [iJ 661971961083, iJ (p1.toInt64 + (2 : Int64))])) _
        refine XS.lconst X0.here hx rfl (hb hby d2_91) ?_
        show Steps _ _ _ (s₁.setTop (mkF m 92 #[vI p1, vI p2, vI p3, vJ 661971961083, .second, vJ 1049200734846, .second, vJ ((p1.toInt64 + (2 : Int64)) * (661971961083 : Int64)), .second, .unset, .unset, vJ (p1.toInt64 + (2 : Int64)), .second] [iJ 1, iJ 661971961083, iJ (p1.toInt64 + (2 : Int64))])) _
        refine XS.ladd X0.here hx rfl (hb hby d2_92) rfl ?_
        rw [(by decide : ((661971961083 : Int64) + (1 : Int64)) = (661971961084 : Int64))]
        show Steps _ _ _ (s₁.setTop (mkF m 93 #[vI p1, vI p2, vI p3, vJ 661971961083, .second, vJ 1049200734846, .second, vJ ((p1.toInt64 + (2 : Int64)) * (661971961083 : Int64)), .second, .unset, .unset, vJ (p1.toInt64 + (2 : Int64)), .second] [iJ 661971961084, iJ (p1.toInt64 + (2 : Int64))])) _
        refine XS.lmul X0.here hx rfl (hb hby d2_93) rfl ?_
        show Steps _ _ _ (s₁.setTop (mkF m 94 #[vI p1, vI p2, vI p3, vJ 661971961083, .second, vJ 1049200734846, .second, vJ ((p1.toInt64 + (2 : Int64)) * (661971961083 : Int64)), .second, .unset, .unset, vJ (p1.toInt64 + (2 : Int64)), .second] [iJ ((p1.toInt64 + (2 : Int64)) * (661971961084 : Int64))])) _
        refine XS.lstore X0.here hx rfl (hb hby d2_94) rfl (l' := #[vI p1, vI p2, vI p3, vJ 661971961083, .second, vJ 1049200734846, .second, vJ ((p1.toInt64 + (2 : Int64)) * (661971961083 : Int64)), .second, vJ ((p1.toInt64 + (2 : Int64)) * (661971961084 : Int64)), .second, vJ (p1.toInt64 + (2 : Int64)), .second]) rfl ?_
        show Steps _ _ _ (s₁.setTop (mkF m 96 #[vI p1, vI p2, vI p3, vJ 661971961083, .second, vJ 1049200734846, .second, vJ ((p1.toInt64 + (2 : Int64)) * (661971961083 : Int64)), .second, vJ ((p1.toInt64 + (2 : Int64)) * (661971961084 : Int64)), .second, vJ (p1.toInt64 + (2 : Int64)), .second] [])) _
        refine XS.goto X0.here hx rfl (pc0 := 96) (pc' := 113) rfl (hb hby d2_96) (by decide) (by decide) ?_
        exact kt
    obtain ⟨v7, hv7⟩ : ∃ z : Int32, z = (if p3.toInt64 < (v3 >>> ((41 : Int32) &&& 0x3f).toInt64) then (0 : Int32) else (if (v4 >>> ((41 : Int32) &&& 0x3f).toInt64) < p3.toInt64 then (0 : Int32) else (1 : Int32))) := ⟨_, rfl⟩
    obtain ⟨T8, X8, e8, st8⟩ : own_Mid X5 h0 (mkF m 121 #[vI p1, vI p2, vI p3, vJ 661971961083, .second, vJ 1049200734846, .second, vJ v3, .second, vJ v4, .second, vJ (p1.toInt64 + (2 : Int64)), .second] [iI (lcmpW (v3 >>> ((41 : Int32) &&& 0x3f).toInt64) p3.toInt64)]) (mkF m 140 #[vI p1, vI p2, vI p3, vJ 661971961083, .second, vJ 1049200734846, .second, vJ v3, .second, vJ v4, .second, vJ (p1.toInt64 + (2 : Int64)), .second] [iI v7]) := by
      by_cases hc9 : p3.toInt64 < (v3 >>> ((41 : Int32) &&& 0x3f).toInt64)
      · refine ⟨T5, X5, e5, fun t kt => ?_⟩
        subst hv7
        simp only [if_pos hc9] at kt
        show Steps _ _ _ (T5.setTop (mkF m 121 #[vI p1, vI p2, vI p3, vJ 661971961083, .second, vJ 1049200734846, .second, vJ v3, .second, vJ v4, .second, vJ (p1.toInt64 + (2 : Int64)), .second] [iI (lcmpW (v3 >>> ((41 : Int32) &&& 0x3f).toInt64) p3.toInt64)])) _
        refine XS.ifYes X5.here hx rfl (pc0 := 121) (pc' := 139) rfl (hb hby d2_121) rfl ((if0 _ _).trans (tlt ((lw_gt _ _).mpr hc9)).2.2.1) (by decide) (by decide) ?_
        show Steps _ _ _ (T5.setTop (mkF m 139 #[vI p1, vI p2, vI p3, vJ 661971961083, .second, vJ 1049200734846, .second, vJ v3, .second, vJ v4, .second, vJ (p1.toInt64 + (2 : Int64)), .second] [])) _
        refine XS.iconst X5.here hx rfl (hb hby d2_139) ?_
        exact kt
      · have pre11 : ∀ t, Steps p.tables e below (T5.setTop (mkF m 132 #[vI p1, vI p2, vI p3, vJ 661971961083, .second, vJ 1049200734846, .second, vJ v3, .second, vJ v4, .second, vJ (p1.toInt64 + (2 : Int64)), .second] [iI (lcmpW p3.toInt64 (v4 >>> ((41 : Int32) &&& 0x3f).toInt64))])) t → Steps p.tables e below (T5.setTop (mkF m 121 #[vI p1, vI p2, vI p3, vJ 661971961083, .second, vJ 1049200734846, .second, vJ v3, .second, vJ v4, .second, vJ (p1.toInt64 + (2 : Int64)), .second] [iI (lcmpW (v3 >>> ((41 : Int32) &&& 0x3f).toInt64) p3.toInt64)])) t := by
          intro t kt
          show Steps _ _ _ (T5.setTop (mkF m 121 #[vI p1, vI p2, vI p3, vJ 661971961083, .second, vJ 1049200734846, .second, vJ v3, .second, vJ v4, .second, vJ (p1.toInt64 + (2 : Int64)), .second] [iI (lcmpW (v3 >>> ((41 : Int32) &&& 0x3f).toInt64) p3.toInt64)])) _
          refine XS.ifNo X5.here hx rfl (hb hby d2_121) rfl ((if0 _ _).trans (flt (mt (lw_gt _ _).mp hc9)).2.2.1) ?_
          show Steps _ _ _ (T5.setTop (mkF m 124 #[vI p1, vI p2, vI p3, vJ 661971961083, .second, vJ 1049200734846, .second, vJ v3, .second, vJ v4, .second, vJ (p1.toInt64 + (2 : Int64)), .second] [])) _
          refine XS.iloadN X5.here hx rfl (hb hby d2_124) rfl ?_
          show Steps _ _ _ (T5.setTop (mkF m 125 #[vI p1, vI p2, vI p3, vJ 661971961083, .second, vJ 1049200734846, .second, vJ v3, .second, vJ v4, .second, vJ (p1.toInt64 + (2 : Int64)), .second] [iI p3])) _
          refine XS.i2l X5.here hx rfl (hb hby d2_125) rfl ?_
          show Steps _ _ _ (T5.setTop (mkF m 126 #[vI p1, vI p2, vI p3, vJ 661971961083, .second, vJ 1049200734846, .second, vJ v3, .second, vJ v4, .second, vJ (p1.toInt64 + (2 : Int64)), .second] [iJ p3.toInt64])) _
          refine XS.lload X5.here hx rfl (hb hby d2_126) rfl ?_
          show Steps _ _ _ (T5.setTop (mkF m 128 #[vI p1, vI p2, vI p3, vJ 661971961083, .second, vJ 1049200734846, .second, vJ v3, .second, vJ v4, .second, vJ (p1.toInt64 + (2 : Int64)), .second] [iJ v4, iJ p3.toInt64])) _
          refine XS.bipush X5.here hx rfl (hb hby d2_128) ?_
          show Steps _ _ _ (T5.setTop (mkF m 130 #[vI p1, vI p2, vI p3, vJ 661971961083, .second, vJ 1049200734846, .second, vJ v3, .second, vJ v4, .second, vJ (p1.toInt64 + (2 : Int64)), .second] [iI 41, iJ v4, iJ p3.toInt64])) _
          refine XS.lshr X5.here hx rfl (hb hby d2_130) rfl ?_
          show Steps _ _ _ (T5.setTop (mkF m 131 #[vI p1, vI p2, vI p3, vJ 661971961083, .second, vJ 1049200734846, .second, vJ v3, .second, vJ v4, .second, vJ (p1.toInt64 + (2 : Int64)), .second] [iJ (v4 >>> ((41 : Int32) &&& 0x3f).toInt64), iJ p3.toInt64])) _
          refine XS.lcmp X5.here hx rfl (hb hby d2_131) rfl ?_
          exact kt
        by_cases hc10 : (v4 >>> ((41 : Int32) &&& 0x3f).toInt64) < p3.toInt64
        · refine ⟨T5, X5, e5, fun t kt => ?_⟩
          subst hv7
          simp only [if_neg hc9, if_pos hc10] at kt
          refine pre11 t ?_
          show Steps _ _ _ (T5.setTop (mkF m 132 #[vI p1, vI p2, vI p3, vJ 661971961083, .second, vJ 1049200734846, .second, vJ v3, .second, vJ v4, .second, vJ (p1.toInt64 + (2 : Int64)), .second] [iI (lcmpW p3.toInt64 (v4 >>> ((41 : Int32) &&& 0x3f).toInt64))])) _
          refine XS.ifYes X5.here hx rfl (pc0 := 132) (pc' := 139) rfl (hb hby d2_132) rfl ((if0 _ _).trans (tlt ((lw_gt _ _).mpr hc10)).2.2.1) (by decide) (by decide) ?_
          show Steps _ _ _ (T5.setTop (mkF m 139 #[vI p1, vI p2, vI p3, vJ 661971961083, .second, vJ 1049200734846, .second, vJ v3, .second, vJ v4, .second, vJ (p1.toInt64 + (2 : Int64)), .second] [])) _
          refine XS.iconst X5.here hx rfl (hb hby d2_139) ?_
          exact kt
        · refine ⟨T5, X5, e5, fun t kt => ?_⟩
          subst hv7
          simp only [if_neg hc9, if_neg hc10] at kt
          refine pre11 t ?_
          show Steps _ _ _ (T5.setTop (mkF m 132 #[vI p1, vI p2, vI p3, vJ 661971961083, .second, vJ 1049200734846, .second, vJ v3, .second, vJ v4, .second, vJ (p1.toInt64 + (2 : Int64)), .second] [iI (lcmpW p3.toInt64 (v4 >>> ((41 : Int32) &&& 0x3f).toInt64))])) _
          refine XS.ifNo X5.here hx rfl (hb hby d2_132) rfl ((if0 _ _).trans (flt (mt (lw_gt _ _).mp hc10)).2.2.1) ?_
          show Steps _ _ _ (T5.setTop (mkF m 135 #[vI p1, vI p2, vI p3, vJ 661971961083, .second, vJ 1049200734846, .second, vJ v3, .second, vJ v4, .second, vJ (p1.toInt64 + (2 : Int64)), .second] [])) _
          refine XS.iconst X5.here hx rfl (hb hby d2_135) ?_
          show Steps _ _ _ (T5.setTop (mkF m 136 #[vI p1, vI p2, vI p3, vJ 661971961083, .second, vJ 1049200734846, .second, vJ v3, .second, vJ v4, .second, vJ (p1.toInt64 + (2 : Int64)), .second] [iI 1])) _
          refine XS.goto X5.here hx rfl (pc0 := 136) (pc' := 140) rfl (hb hby d2_136) (by decide) (by decide) ?_
          exact kt
    obtain ⟨fs, hr, hrun, hended, hW, hsame⟩ := X8.leave (v := some (.int (nar .boolean v7))) (fun h => by rw [Bd.returns] at h; cases h)
    refine ⟨_, _, pre2 _ ?_, hrun, hended, _, _, rfl, ?_, ⟨_, rfl⟩, hW, hsame.mono (by decide) (by decide)⟩
    · show Steps _ _ _ (s₁.setTop (mkF m 10 #[vI p1, vI p2, vI p3, vJ 661971961083, .second, vJ 1049200734846, .second, .unset, .unset, .unset, .unset, .unset, .unset] [iI p2])) _
      refine XS.ifYes X0.here hx rfl (pc0 := 10) (pc' := 67) rfl (hb hby d2_10) rfl ((if0 _ _).trans (teq hc1).1) (by decide) (by decide) ?_
      show Steps _ _ _ (s₁.setTop (mkF m 67 #[vI p1, vI p2, vI p3, vJ 661971961083, .second, vJ 1049200734846, .second, .unset, .unset, .unset, .unset, .unset, .unset] [])) _
      refine XS.iloadN X0.here hx rfl (hb hby d2_67) rfl ?_
      show Steps _ _ _ (s₁.setTop (mkF m 68 #[vI p1, vI p2, vI p3, vJ 661971961083, .second, vJ 1049200734846, .second, .unset, .unset, .unset, .unset, .unset, .unset] [iI p1])) _
      refine XS.i2l X0.here hx rfl (hb hby d2_68) rfl ?_
      show Steps _ _ _ (s₁.setTop (mkF m 69 #[vI p1, vI p2, vI p3, vJ 661971961083, .second, vJ 1049200734846, .second, .unset, .unset, .unset, .unset, .unset, .unset] [iJ p1.toInt64])) _
      refine X0.ldc2Long hx hown (mvT hZ (hw _ (List.mem_of_getElem? (i := 37) rfl))) (g := (mkF m 69 #[vI p1, vI p2, vI p3, vJ 661971961083, .second, vJ 1049200734846, .second, .unset, .unset, .unset, .unset, .unset, .unset] [iJ p1.toInt64])) rfl (hb hby d2_69) _ ?_
      show Steps _ _ _ (s₁.setTop (mkF m 72 #[vI p1, vI p2, vI p3, vJ 661971961083, .second, vJ 1049200734846, .second, .unset, .unset, .unset, .unset, .unset, .unset] [iJ 2, iJ p1.toInt64])) _
      refine XS.ladd X0.here hx rfl (hb hby d2_72) rfl ?_
      show Steps _ _ _ (s₁.setTop (mkF m 73 #[vI p1, vI p2, vI p3, vJ 661971961083, .second, vJ 1049200734846, .second, .unset, .unset, .unset, .unset, .unset, .unset] [iJ (p1.toInt64 + (2 : Int64))])) _
      refine XS.lstore X0.here hx rfl (hb hby d2_73) rfl (l' := #[vI p1, vI p2, vI p3, vJ 661971961083, .second, vJ 1049200734846, .second, .unset, .unset, .unset, .unset, vJ (p1.toInt64 + (2 : Int64)), .second]) rfl ?_
      show Steps _ _ _ (s₁.setTop (mkF m 75 #[vI p1, vI p2, vI p3, vJ 661971961083, .second, vJ 1049200734846, .second, .unset, .unset, .unset, .unset, vJ (p1.toInt64 + (2 : Int64)), .second] [])) _
      refine XS.lload X0.here hx rfl (hb hby d2_75) rfl ?_
      show Steps _ _ _ (s₁.setTop (mkF m 77 #[vI p1, vI p2, vI p3, vJ 661971961083, .second, vJ 1049200734846, .second, .unset, .unset, .unset, .unset, vJ (p1.toInt64 + (2 : Int64)), .second] [iJ (p1.toInt64 + (2 : Int64))])) _
      refine XS.lconst X0.here hx rfl (hb hby d2_77) ?_
      show Steps _ _ _ (s₁.setTop (mkF m 78 #[vI p1, vI p2, vI p3, vJ 661971961083, .second, vJ 1049200734846, .second, .unset, .unset, .unset, .unset, vJ (p1.toInt64 + (2 : Int64)), .second] [iJ 0, iJ (p1.toInt64 + (2 : Int64))])) _
      refine XS.lcmp X0.here hx rfl (hb hby d2_78) rfl ?_
      show Steps _ _ _ (s₁.setTop (mkF m 79 #[vI p1, vI p2, vI p3, vJ 661971961083, .second, vJ 1049200734846, .second, .unset, .unset, .unset, .unset, vJ (p1.toInt64 + (2 : Int64)), .second] [iI (lcmpW (p1.toInt64 + (2 : Int64)) (0 : Int64))])) _
      refine st5 _ ?_
      show Steps _ _ _ (T5.setTop (mkF m 113 #[vI p1, vI p2, vI p3, vJ 661971961083, .second, vJ 1049200734846, .second, vJ v3, .second, vJ v4, .second, vJ (p1.toInt64 + (2 : Int64)), .second] [])) _
      refine XS.lload X5.here hx rfl (hb hby d2_113) rfl ?_
      show Steps _ _ _ (T5.setTop (mkF m 115 #[vI p1, vI p2, vI p3, vJ 661971961083, .second, vJ 1049200734846, .second, vJ v3, .second, vJ v4, .second, vJ (p1.toInt64 + (2 : Int64)), .second] [iJ v3])) _
      refine XS.bipush X5.here hx rfl (hb hby d2_115) ?_
      show Steps _ _ _ (T5.setTop (mkF m 117 #[vI p1, vI p2, vI p3, vJ 661971961083, .second, vJ 1049200734846, .second, vJ v3, .second, vJ v4, .second, vJ (p1.toInt64 + (2 : Int64)), .second] [iI 41, iJ v3])) _
      refine XS.lshr X5.here hx rfl (hb hby d2_117) rfl ?_
      show Steps _ _ _ (T5.setTop (mkF m 118 #[vI p1, vI p2, vI p3, vJ 661971961083, .second, vJ 1049200734846, .second, vJ v3, .second, vJ v4, .second, vJ (p1.toInt64 + (2 : Int64)), .second] [iJ (v3 >>> ((41 : Int32) &&& 0x3f).toInt64)])) _
      refine XS.iloadN X5.here hx rfl (hb hby d2_118) rfl ?_
      show Steps _ _ _ (T5.setTop (mkF m 119 #[vI p1, vI p2, vI p3, vJ 661971961083, .second, vJ 1049200734846, .second, vJ v3, .second, vJ v4, .second, vJ (p1.toInt64 + (2 : Int64)), .second] [iI p3, iJ (v3 >>> ((41 : Int32) &&& 0x3f).toInt64)])) _
      refine XS.i2l X5.here hx rfl (hb hby d2_119) rfl ?_
      show Steps _ _ _ (T5.setTop (mkF m 120 #[vI p1, vI p2, vI p3, vJ 661971961083, .second, vJ 1049200734846, .second, vJ v3, .second, vJ v4, .second, vJ (p1.toInt64 + (2 : Int64)), .second] [iJ p3.toInt64, iJ (v3 >>> ((41 : Int32) &&& 0x3f).toInt64)])) _
      refine XS.lcmp X5.here hx rfl (hb hby d2_120) rfl ?_
      show Steps _ _ _ (T5.setTop (mkF m 121 #[vI p1, vI p2, vI p3, vJ 661971961083, .second, vJ 1049200734846, .second, vJ v3, .second, vJ v4, .second, vJ (p1.toInt64 + (2 : Int64)), .second] [iI (lcmpW (v3 >>> ((41 : Int32) &&& 0x3f).toInt64) p3.toInt64)])) _
      refine st8 _ ?_
      show Steps _ _ _ (T8.setTop (mkF m 140 #[vI p1, vI p2, vI p3, vJ 661971961083, .second, vJ 1049200734846, .second, vJ v3, .second, vJ v4, .second, vJ (p1.toInt64 + (2 : Int64)), .second] [iI v7])) _
      exact retN X8 hx (t := .boolean) Bd.returns (by simp) (hb hby d2_140) hr
    · show Q2 Z p1 p2 p3 h0 _ T8.heap _
      rw [e8]
      exact ⟨by subst hv7 hv4 hv3; first | rfl | (simp only [own_sand, if_pos hc1]; done) | (simp only [own_sand, if_pos hc1]; rfl) | (simp only [own_sand, if_pos hc1, nar] ; first | rfl | (simp; done) | decide), rfl, rfl⟩
  · obtain ⟨v12, hv12⟩ : ∃ z : Int64, z = (if p1 < (0 : Int32) then ((p1.toInt64 * (661971961084 : Int64)) + (1049200734846 : Int64)) else ((p1.toInt64 * (661971961083 : Int64)) + (1049200734846 : Int64))) := ⟨_, rfl⟩
    obtain ⟨v13, hv13⟩ : ∃ z : Int64, z = (if p1 < (0 : Int32) then (((p1.toInt64 * (661971961083 : Int64)) + (1049200734846 : Int64)) + (1 : Int64)) else (((p1.toInt64 * (661971961084 : Int64)) + (1049200734846 : Int64)) + (1 : Int64))) := ⟨_, rfl⟩
    obtain ⟨T14, X14, e14, st14⟩ : own_Mid X0 h0 (mkF m 14 #[vI p1, vI p2, vI p3, vJ 661971961083, .second, vJ 1049200734846, .second, .unset, .unset, .unset, .unset, .unset, .unset] [iI p1]) (mkF m 113 #[vI p1, vI p2, vI p3, vJ 661971961083, .second, vJ 1049200734846, .second, vJ v12, .second, vJ v13, .second, .unset, .unset] []) := by
      by_cases hc15 : p1 < (0 : Int32)
      · obtain ⟨v16, hv16⟩ : ∃ z : Int64, z = (((p1.toInt64 * (661971961083 : Int64)) + (1049200734846 : Int64)) + (1 : Int64)) := ⟨_, rfl⟩
        refine ⟨s₁, X0, e0, fun t kt => ?_⟩
        subst hv12 hv13
        simp only [if_pos hc15] at kt
        show Steps _ _ _ (s₁.setTop (mkF m 14 #[vI p1, vI p2, vI p3, vJ 661971961083, .second, vJ 1049200734846, .second, .unset, .unset, .unset, .unset, .unset, .unset] [iI p1])) _
        refine XS.ifYes X0.here hx rfl (pc0 := 14) (pc' := 42) rfl (hb hby d2_14) rfl ((if0 _ _).trans (tlt hc15).1) (by decide) (by decide) ?_
        show Steps _ _ _ (s₁.setTop (mkF m 42 #[vI p1, vI p2, vI p3, vJ 661971961083, .second, vJ 1049200734846, .second, .unset, .unset, .unset, .unset, .unset, .unset] [])) _
        refine XS.iloadN X0.here hx rfl (hb hby d2_42) rfl ?_
        show Steps _ _ _ (s₁.setTop (mkF m 43 #[vI p1, vI p2, vI p3, vJ 661971961083, .second, vJ 1049200734846, .second, .unset, .unset, .unset, .unset, .unset, .unset] [iI p1])) _
        refine XS.i2l X0.here hx rfl (hb hby d2_43) rfl ?_
        show Steps _ _ _ (s₁.setTop (mkF m 44 #[vI p1, vI p2, vI p3, vJ 661971961083, .second, vJ 1049200734846, .second, .unset, .unset, .unset, .unset, .unset, .unset] [iJ p1.toInt64])) _
        refine XS.lloadN X0.here hx rfl (hb hby d2_44) rfl ?_
        show Steps _ _ _ (s₁.setTop (mkF m 45 #[vI p1, vI p2, vI p3, vJ 661971961083, .second, vJ 1049200734846, .second, .unset, .unset, .unset, .unset, .unset, .unset] [iJ 661971961083, iJ p1.toInt64])) _
        refine XS.lconst X0.here hx rfl (hb hby d2_45) ?_
        show Steps _ _ _ (s₁.setTop (mkF m 46 #[vI p1, vI p2, vI p3, vJ 661971961083, .second, vJ 1049200734846, .second, .unset, .unset, .unset, .unset, .unset, .unset] [iJ 1, iJ 661971961083, iJ p1.toInt64])) _
        refine XS.ladd X0.here hx rfl (hb hby d2_46) rfl ?_
        rw [(by decide : ((661971961083 : Int64) + (1 : Int64)) = (661971961084 : Int64))]
        show Steps _ _ _ (s₁.setTop (mkF m 47 #[vI p1, vI p2, vI p3, vJ 661971961083, .second, vJ 1049200734846, .second, .unset, .unset, .unset, .unset, .unset, .unset] [iJ 661971961084, iJ p1.toInt64])) _
        refine XS.lmul X0.here hx rfl (hb hby d2_47) rfl ?_
        show Steps _ _ _ (s₁.setTop (mkF m 48 #[vI p1, vI p2, vI p3, vJ 661971961083, .second, vJ 1049200734846, .second, .unset, .unset, .unset, .unset, .unset, .unset] [iJ (p1.toInt64 * (661971961084 : Int64))])) _
        refine XS.lload X0.here hx rfl (hb hby d2_48) rfl ?_
        show Steps _ _ _ (s₁.setTop (mkF m 50 #[vI p1, vI p2, vI p3, vJ 661971961083, .second, vJ 1049200734846, .second, .unset, .unset, .unset, .unset, .unset, .unset] [iJ 1049200734846, iJ (p1.toInt64 * (661971961084 : Int64))])) _
        refine XS.ladd X0.here hx rfl (hb hby d2_50) rfl ?_
        show Steps _ _ _ (s₁.setTop (mkF m 51 #[vI p1, vI p2, vI p3, vJ 661971961083, .second, vJ 1049200734846, .second, .unset, .unset, .unset, .unset, .unset, .unset] [iJ ((p1.toInt64 * (661971961084 : Int64)) + (1049200734846 : Int64))])) _
        refine XS.lstore X0.here hx rfl (hb hby d2_51) rfl (l' := #[vI p1, vI p2, vI p3, vJ 661971961083, .second, vJ 1049200734846, .second, vJ ((p1.toInt64 * (661971961084 : Int64)) + (1049200734846 : Int64)), .second, .unset, .unset, .unset, .unset]) rfl ?_
        show Steps _ _ _ (s₁.setTop (mkF m 53 #[vI p1, vI p2, vI p3, vJ 661971961083, .second, vJ 1049200734846, .second, vJ ((p1.toInt64 * (661971961084 : Int64)) + (1049200734846 : Int64)), .second, .unset, .unset, .unset, .unset] [])) _
        refine XS.iloadN X0.here hx rfl (hb hby d2_53) rfl ?_
        show Steps _ _ _ (s₁.setTop (mkF m 54 #[vI p1, vI p2, vI p3, vJ 661971961083, .second, vJ 1049200734846, .second, vJ ((p1.toInt64 * (661971961084 : Int64)) + (1049200734846 : Int64)), .second, .unset, .unset, .unset, .unset] [iI p1])) _
        refine XS.i2l X0.here hx rfl (hb hby d2_54) rfl ?_
        show Steps _ _ _ (s₁.setTop (mkF m 55 #[vI p1, vI p2, vI p3, vJ 661971961083, .second, vJ 1049200734846, .second, vJ ((p1.toInt64 * (661971961084 : Int64)) + (1049200734846 : Int64)), .second, .unset, .unset, .unset, .unset] [iJ p1.toInt64])) _
        refine XS.lloadN X0.here hx rfl (hb hby d2_55) rfl ?_
        show Steps _ _ _ (s₁.setTop (mkF m 56 #[vI p1, vI p2, vI p3, vJ 661971961083, .second, vJ 1049200734846, .second, vJ ((p1.toInt64 * (661971961084 : Int64)) + (1049200734846 : Int64)), .second, .unset, .unset, .unset, .unset] [iJ 661971961083, iJ p1.toInt64])) _
        refine XS.lmul X0.here hx rfl (hb hby d2_56) rfl ?_
        show Steps _ _ _ (s₁.setTop (mkF m 57 #[vI p1, vI p2, vI p3, vJ 661971961083, .second, vJ 1049200734846, .second, vJ ((p1.toInt64 * (661971961084 : Int64)) + (1049200734846 : Int64)), .second, .unset, .unset, .unset, .unset] [iJ (p1.toInt64 * (661971961083 : Int64))])) _
        refine XS.lload X0.here hx rfl (hb hby d2_57) rfl ?_
        show Steps _ _ _ (s₁.setTop (mkF m 59 #[vI p1, vI p2, vI p3, vJ 661971961083, .second, vJ 1049200734846, .second, vJ ((p1.toInt64 * (661971961084 : Int64)) + (1049200734846 : Int64)), .second, .unset, .unset, .unset, .unset] [iJ 1049200734846, iJ (p1.toInt64 * (661971961083 : Int64))])) _
        refine XS.ladd X0.here hx rfl (hb hby d2_59) rfl ?_
        show Steps _ _ _ (s₁.setTop (mkF m 60 #[vI p1, vI p2, vI p3, vJ 661971961083, .second, vJ 1049200734846, .second, vJ ((p1.toInt64 * (661971961084 : Int64)) + (1049200734846 : Int64)), .second, .unset, .unset, .unset, .unset] [iJ ((p1.toInt64 * (661971961083 : Int64)) + (1049200734846 : Int64))])) _
        refine XS.lconst X0.here hx rfl (hb hby d2_60) ?_
        show Steps _ _ _ (s₁.setTop (mkF m 61 #[vI p1, vI p2, vI p3, vJ 661971961083, .second, vJ 1049200734846, .second, vJ ((p1.toInt64 * (661971961084 : Int64)) + (1049200734846 : Int64)), .second, .unset, .unset, .unset, .unset] [iJ 1, iJ ((p1.toInt64 * (661971961083 : Int64)) + (1049200734846 : Int64))])) _
        refine XS.ladd X0.here hx rfl (hb hby d2_61) rfl ?_
        show Steps _ _ _ (s₁.setTop (mkF m 62 #[vI p1, vI p2, vI p3, vJ 661971961083, .second, vJ 1049200734846, .second, vJ ((p1.toInt64 * (661971961084 : Int64)) + (1049200734846 : Int64)), .second, .unset, .unset, .unset, .unset] [iJ (((p1.toInt64 * (661971961083 : Int64)) + (1049200734846 : Int64)) + (1 : Int64))])) _
        refine XS.lstore X0.here hx rfl (hb hby d2_62) rfl (l' := #[vI p1, vI p2, vI p3, vJ 661971961083, .second, vJ 1049200734846, .second, vJ ((p1.toInt64 * (661971961084 : Int64)) + (1049200734846 : Int64)), .second, vJ (((p1.toInt64 * (661971961083 : Int64)) + (1049200734846 : Int64)) + (1 : Int64)), .second, .unset, .unset]) rfl ?_
        rw [← hv16]
        show Steps _ _ _ (s₁.setTop (mkF m 64 #[vI p1, vI p2, vI p3, vJ 661971961083, .second, vJ 1049200734846, .second, vJ ((p1.toInt64 * (661971961084 : Int64)) + (1049200734846 : Int64)), .second, vJ v16, .second, .unset, .unset] [])) _
        refine XS.goto X0.here hx rfl (pc0 := 64) (pc' := 113) rfl (hb hby d2_64) (by decide) (by decide) ?_
        subst hv16
        exact kt
      · obtain ⟨v17, hv17⟩ : ∃ z : Int64, z = (((p1.toInt64 * (661971961084 : Int64)) + (1049200734846 : Int64)) + (1 : Int64)) := ⟨_, rfl⟩
        refine ⟨s₁, X0, e0, fun t kt => ?_⟩
        subst hv12 hv13
        simp only [if_neg hc15] at kt
        show Steps _ _ _ (s₁.setTop (mkF m 14 #[vI p1, vI p2, vI p3, vJ 661971961083, .second, vJ 1049200734846, .second, .unset, .unset, .unset, .unset, .unset, .unset] [iI p1])) _
        refine XS.ifNo X0.here hx rfl (hb hby d2_14) rfl ((if0 _ _).trans (flt hc15).1) ?_
        show Steps _ _ _ (s₁.setTop (mkF m 17 #[vI p1, vI p2, vI p3, vJ 661971961083, .second, vJ 1049200734846, .second, .unset, .unset, .unset, .unset, .unset, .unset] [])) _
        refine XS.iloadN X0.here hx rfl (hb hby d2_17) rfl ?_
        show Steps _ _ _ (s₁.setTop (mkF m 18 #[vI p1, vI p2, vI p3, vJ 661971961083, .second, vJ 1049200734846, .second, .unset, .unset, .unset, .unset, .unset, .unset] [iI p1])) _
        refine XS.i2l X0.here hx rfl (hb hby d2_18) rfl ?_
        show Steps _ _ _ (s₁.setTop (mkF m 19 #[vI p1, vI p2, vI p3, vJ 661971961083, .second, vJ 1049200734846, .second, .unset, .unset, .unset, .unset, .unset, .unset] [iJ p1.toInt64])) _
        refine XS.lloadN X0.here hx rfl (hb hby d2_19) rfl ?_
        show Steps _ _ _ (s₁.setTop (mkF m 20 #[vI p1, vI p2, vI p3, vJ 661971961083, .second, vJ 1049200734846, .second, .unset, .unset, .unset, .unset, .unset, .unset] [iJ 661971961083, iJ p1.toInt64])) _
        refine XS.lmul X0.here hx rfl (hb hby d2_20) rfl ?_
        show Steps _ _ _ (s₁.setTop (mkF m 21 #[vI p1, vI p2, vI p3, vJ 661971961083, .second, vJ 1049200734846, .second, .unset, .unset, .unset, .unset, .unset, .unset] [iJ (p1.toInt64 * (661971961083 : Int64))])) _
        refine XS.lload X0.here hx rfl (hb hby d2_21) rfl ?_
        show Steps _ _ _ (s₁.setTop (mkF m 23 #[vI p1, vI p2, vI p3, vJ 661971961083, .second, vJ 1049200734846, .second, .unset, .unset, .unset, .unset, .unset, .unset] [iJ 1049200734846, iJ (p1.toInt64 * (661971961083 : Int64))])) _
        refine XS.ladd X0.here hx rfl (hb hby d2_23) rfl ?_
        show Steps _ _ _ (s₁.setTop (mkF m 24 #[vI p1, vI p2, vI p3, vJ 661971961083, .second, vJ 1049200734846, .second, .unset, .unset, .unset, .unset, .unset, .unset] [iJ ((p1.toInt64 * (661971961083 : Int64)) + (1049200734846 : Int64))])) _
        refine XS.lstore X0.here hx rfl (hb hby d2_24) rfl (l' := #[vI p1, vI p2, vI p3, vJ 661971961083, .second, vJ 1049200734846, .second, vJ ((p1.toInt64 * (661971961083 : Int64)) + (1049200734846 : Int64)), .second, .unset, .unset, .unset, .unset]) rfl ?_
        show Steps _ _ _ (s₁.setTop (mkF m 26 #[vI p1, vI p2, vI p3, vJ 661971961083, .second, vJ 1049200734846, .second, vJ ((p1.toInt64 * (661971961083 : Int64)) + (1049200734846 : Int64)), .second, .unset, .unset, .unset, .unset] [])) _
        refine XS.iloadN X0.here hx rfl (hb hby d2_26) rfl ?_
        show Steps _ _ _ (s₁.setTop (mkF m 27 #[vI p1, vI p2, vI p3, vJ 661971961083, .second, vJ 1049200734846, .second, vJ ((p1.toInt64 * (661971961083 : Int64)) + (1049200734846 : Int64)), .second, .unset, .unset, .unset, .unset] [iI p1])) _
        refine XS.i2l X0.here hx rfl (hb hby d2_27) rfl ?_
        show Steps _ _ _ (s₁.setTop (mkF m 28 #[vI p1, vI p2, vI p3, vJ 661971961083, .second, vJ 1049200734846, .second, vJ ((p1.toInt64 * (661971961083 : Int64)) + (1049200734846 : Int64)), .second, .unset, .unset, .unset, .unset] [iJ p1.toInt64])) _
        refine XS.lloadN X0.here hx rfl (hb hby d2_28) rfl ?_
        show Steps _ _ _ (s₁.setTop (mkF m 29 #[vI p1, vI p2, vI p3, vJ 661971961083, .second, vJ 1049200734846, .second, vJ ((p1.toInt64 * (661971961083 : Int64)) + (1049200734846 : Int64)), .second, .unset, .unset, .unset, .unset] [iJ 661971961083, iJ p1.toInt64])) _
        refine XS.lconst X0.here hx rfl (hb hby d2_29) ?_
        show Steps _ _ _ (s₁.setTop (mkF m 30 #[vI p1, vI p2, vI p3, vJ 661971961083, .second, vJ 1049200734846, .second, vJ ((p1.toInt64 * (661971961083 : Int64)) + (1049200734846 : Int64)), .second, .unset, .unset, .unset, .unset] [iJ 1, iJ 661971961083, iJ p1.toInt64])) _
        refine XS.ladd X0.here hx rfl (hb hby d2_30) rfl ?_
        rw [(by decide : ((661971961083 : Int64) + (1 : Int64)) = (661971961084 : Int64))]
        show Steps _ _ _ (s₁.setTop (mkF m 31 #[vI p1, vI p2, vI p3, vJ 661971961083, .second, vJ 1049200734846, .second, vJ ((p1.toInt64 * (661971961083 : Int64)) + (1049200734846 : Int64)), .second, .unset, .unset, .unset, .unset] [iJ 661971961084, iJ p1.toInt64])) _
        refine XS.lmul X0.here hx rfl (hb hby d2_31) rfl ?_
        show Steps _ _ _ (s₁.setTop (mkF m 32 #[vI p1, vI p2, vI p3, vJ 661971961083, .second, vJ 1049200734846, .second, vJ ((p1.toInt64 * (661971961083 : Int64)) + (1049200734846 : Int64)), .second, .unset, .unset, .unset, .unset] [iJ (p1.toInt64 * (661971961084 : Int64))])) _
        refine XS.lload X0.here hx rfl (hb hby d2_32) rfl ?_
        show Steps _ _ _ (s₁.setTop (mkF m 34 #[vI p1, vI p2, vI p3, vJ 661971961083, .second, vJ 1049200734846, .second, vJ ((p1.toInt64 * (661971961083 : Int64)) + (1049200734846 : Int64)), .second, .unset, .unset, .unset, .unset] [iJ 1049200734846, iJ (p1.toInt64 * (661971961084 : Int64))])) _
        refine XS.ladd X0.here hx rfl (hb hby d2_34) rfl ?_
        show Steps _ _ _ (s₁.setTop (mkF m 35 #[vI p1, vI p2, vI p3, vJ 661971961083, .second, vJ 1049200734846, .second, vJ ((p1.toInt64 * (661971961083 : Int64)) + (1049200734846 : Int64)), .second, .unset, .unset, .unset, .unset] [iJ ((p1.toInt64 * (661971961084 : Int64)) + (1049200734846 : Int64))])) _
        refine XS.lconst X0.here hx rfl (hb hby d2_35) ?_
        show Steps _ _ _ (s₁.setTop (mkF m 36 #[vI p1, vI p2, vI p3, vJ 661971961083, .second, vJ 1049200734846, .second, vJ ((p1.toInt64 * (661971961083 : Int64)) + (1049200734846 : Int64)), .second, .unset, .unset, .unset, .unset] [iJ 1, iJ ((p1.toInt64 * (661971961084 : Int64)) + (1049200734846 : Int64))])) _
        refine XS.ladd X0.here hx rfl (hb hby d2_36) rfl ?_
        show Steps _ _ _ (s₁.setTop (mkF m 37 #[vI p1, vI p2, vI p3, vJ 661971961083, .second, vJ 1049200734846, .second, vJ ((p1.toInt64 * (661971961083 : Int64)) + (1049200734846 : Int64)), .second, .unset, .unset, .unset, .unset] [iJ (((p1.toInt64 * (661971961084 : Int64)) + (1049200734846 : Int64)) + (1 : Int64))])) _
        refine XS.lstore X0.here hx rfl (hb hby d2_37) rfl (l' := #[vI p1, vI p2, vI p3, vJ 661971961083, .second, vJ 1049200734846, .second, vJ ((p1.toInt64 * (661971961083 : Int64)) + (1049200734846 : Int64)), .second, vJ (((p1.toInt64 * (661971961084 : Int64)) + (1049200734846 : Int64)) + (1 : Int64)), .second, .unset, .unset]) rfl ?_
        rw [← hv17]
        show Steps _ _ _ (s₁.setTop (mkF m 39 #[vI p1, vI p2, vI p3, vJ 661971961083, .second, vJ 1049200734846, .second, vJ ((p1.toInt64 * (661971961083 : Int64)) + (1049200734846 : Int64)), .second, vJ v17, .second, .unset, .unset] [])) _
        refine XS.goto X0.here hx rfl (pc0 := 39) (pc' := 113) rfl (hb hby d2_39) (by decide) (by decide) ?_
        subst hv17
        exact kt
    obtain ⟨v18, hv18⟩ : ∃ z : Int32, z = (if p3.toInt64 < (v12 >>> ((41 : Int32) &&& 0x3f).toInt64) then (0 : Int32) else (if (v13 >>> ((41 : Int32) &&& 0x3f).toInt64) < p3.toInt64 then (0 : Int32) else (1 : Int32))) := ⟨_, rfl⟩
    obtain ⟨T19, X19, e19, st19⟩ : own_Mid X14 h0 (mkF m 121 #[vI p1, vI p2, vI p3, vJ 661971961083, .second, vJ 1049200734846, .second, vJ v12, .second, vJ v13, .second, .unset, .unset] [iI (lcmpW (v12 >>> ((41 : Int32) &&& 0x3f).toInt64) p3.toInt64)]) (mkF m 140 #[vI p1, vI p2, vI p3, vJ 661971961083, .second, vJ 1049200734846, .second, vJ v12, .second, vJ v13, .second, .unset, .unset] [iI v18]) := by
      by_cases hc20 : p3.toInt64 < (v12 >>> ((41 : Int32) &&& 0x3f).toInt64)
      · refine ⟨T14, X14, e14, fun t kt => ?_⟩
        subst hv18
        simp only [if_pos hc20] at kt
        show Steps _ _ _ (T14.setTop (mkF m 121 #[vI p1, vI p2, vI p3, vJ 661971961083, .second, vJ 1049200734846, .second, vJ v12, .second, vJ v13, .second, .unset, .unset] [iI (lcmpW (v12 >>> ((41 : Int32) &&& 0x3f).toInt64) p3.toInt64)])) _
        refine XS.ifYes X14.here hx rfl (pc0 := 121) (pc' := 139) rfl (hb hby d2_121) rfl ((if0 _ _).trans (tlt ((lw_gt _ _).mpr hc20)).2.2.1) (by decide) (by decide) ?_
        show Steps _ _ _ (T14.setTop (mkF m 139 #[vI p1, vI p2, vI p3, vJ 661971961083, .second, vJ 1049200734846, .second, vJ v12, .second, vJ v13, .second, .unset, .unset] [])) _
        refine XS.iconst X14.here hx rfl (hb hby d2_139) ?_
        exact kt
      · have pre22 : ∀ t, Steps p.tables e below (T14.setTop (mkF m 132 #[vI p1, vI p2, vI p3, vJ 661971961083, .second, vJ 1049200734846, .second, vJ v12, .second, vJ v13, .second, .unset, .unset] [iI (lcmpW p3.toInt64 (v13 >>> ((41 : Int32) &&& 0x3f).toInt64))])) t → Steps p.tables e below (T14.setTop (mkF m 121 #[vI p1, vI p2, vI p3, vJ 661971961083, .second, vJ 1049200734846, .second, vJ v12, .second, vJ v13, .second, .unset, .unset] [iI (lcmpW (v12 >>> ((41 : Int32) &&& 0x3f).toInt64) p3.toInt64)])) t := by
          intro t kt
          show Steps _ _ _ (T14.setTop (mkF m 121 #[vI p1, vI p2, vI p3, vJ 661971961083, .second, vJ 1049200734846, .second, vJ v12, .second, vJ v13, .second, .unset, .unset] [iI (lcmpW (v12 >>> ((41 : Int32) &&& 0x3f).toInt64) p3.toInt64)])) _
          refine XS.ifNo X14.here hx rfl (hb hby d2_121) rfl ((if0 _ _).trans (flt (mt (lw_gt _ _).mp hc20)).2.2.1) ?_
          show Steps _ _ _ (T14.setTop (mkF m 124 #[vI p1, vI p2, vI p3, vJ 661971961083, .second, vJ 1049200734846, .second, vJ v12, .second, vJ v13, .second, .unset, .unset] [])) _
          refine XS.iloadN X14.here hx rfl (hb hby d2_124) rfl ?_
          show Steps _ _ _ (T14.setTop (mkF m 125 #[vI p1, vI p2, vI p3, vJ 661971961083, .second, vJ 1049200734846, .second, vJ v12, .second, vJ v13, .second, .unset, .unset] [iI p3])) _
          refine XS.i2l X14.here hx rfl (hb hby d2_125) rfl ?_
          show Steps _ _ _ (T14.setTop (mkF m 126 #[vI p1, vI p2, vI p3, vJ 661971961083, .second, vJ 1049200734846, .second, vJ v12, .second, vJ v13, .second, .unset, .unset] [iJ p3.toInt64])) _
          refine XS.lload X14.here hx rfl (hb hby d2_126) rfl ?_
          show Steps _ _ _ (T14.setTop (mkF m 128 #[vI p1, vI p2, vI p3, vJ 661971961083, .second, vJ 1049200734846, .second, vJ v12, .second, vJ v13, .second, .unset, .unset] [iJ v13, iJ p3.toInt64])) _
          refine XS.bipush X14.here hx rfl (hb hby d2_128) ?_
          show Steps _ _ _ (T14.setTop (mkF m 130 #[vI p1, vI p2, vI p3, vJ 661971961083, .second, vJ 1049200734846, .second, vJ v12, .second, vJ v13, .second, .unset, .unset] [iI 41, iJ v13, iJ p3.toInt64])) _
          refine XS.lshr X14.here hx rfl (hb hby d2_130) rfl ?_
          show Steps _ _ _ (T14.setTop (mkF m 131 #[vI p1, vI p2, vI p3, vJ 661971961083, .second, vJ 1049200734846, .second, vJ v12, .second, vJ v13, .second, .unset, .unset] [iJ (v13 >>> ((41 : Int32) &&& 0x3f).toInt64), iJ p3.toInt64])) _
          refine XS.lcmp X14.here hx rfl (hb hby d2_131) rfl ?_
          exact kt
        by_cases hc21 : (v13 >>> ((41 : Int32) &&& 0x3f).toInt64) < p3.toInt64
        · refine ⟨T14, X14, e14, fun t kt => ?_⟩
          subst hv18
          simp only [if_neg hc20, if_pos hc21] at kt
          refine pre22 t ?_
          show Steps _ _ _ (T14.setTop (mkF m 132 #[vI p1, vI p2, vI p3, vJ 661971961083, .second, vJ 1049200734846, .second, vJ v12, .second, vJ v13, .second, .unset, .unset] [iI (lcmpW p3.toInt64 (v13 >>> ((41 : Int32) &&& 0x3f).toInt64))])) _
          refine XS.ifYes X14.here hx rfl (pc0 := 132) (pc' := 139) rfl (hb hby d2_132) rfl ((if0 _ _).trans (tlt ((lw_gt _ _).mpr hc21)).2.2.1) (by decide) (by decide) ?_
          show Steps _ _ _ (T14.setTop (mkF m 139 #[vI p1, vI p2, vI p3, vJ 661971961083, .second, vJ 1049200734846, .second, vJ v12, .second, vJ v13, .second, .unset, .unset] [])) _
          refine XS.iconst X14.here hx rfl (hb hby d2_139) ?_
          exact kt
        · refine ⟨T14, X14, e14, fun t kt => ?_⟩
          subst hv18
          simp only [if_neg hc20, if_neg hc21] at kt
          refine pre22 t ?_
          show Steps _ _ _ (T14.setTop (mkF m 132 #[vI p1, vI p2, vI p3, vJ 661971961083, .second, vJ 1049200734846, .second, vJ v12, .second, vJ v13, .second, .unset, .unset] [iI (lcmpW p3.toInt64 (v13 >>> ((41 : Int32) &&& 0x3f).toInt64))])) _
          refine XS.ifNo X14.here hx rfl (hb hby d2_132) rfl ((if0 _ _).trans (flt (mt (lw_gt _ _).mp hc21)).2.2.1) ?_
          show Steps _ _ _ (T14.setTop (mkF m 135 #[vI p1, vI p2, vI p3, vJ 661971961083, .second, vJ 1049200734846, .second, vJ v12, .second, vJ v13, .second, .unset, .unset] [])) _
          refine XS.iconst X14.here hx rfl (hb hby d2_135) ?_
          show Steps _ _ _ (T14.setTop (mkF m 136 #[vI p1, vI p2, vI p3, vJ 661971961083, .second, vJ 1049200734846, .second, vJ v12, .second, vJ v13, .second, .unset, .unset] [iI 1])) _
          refine XS.goto X14.here hx rfl (pc0 := 136) (pc' := 140) rfl (hb hby d2_136) (by decide) (by decide) ?_
          exact kt
    obtain ⟨fs, hr, hrun, hended, hW, hsame⟩ := X19.leave (v := some (.int (nar .boolean v18))) (fun h => by rw [Bd.returns] at h; cases h)
    refine ⟨_, _, pre2 _ ?_, hrun, hended, _, _, rfl, ?_, ⟨_, rfl⟩, hW, hsame.mono (by decide) (by decide)⟩
    · show Steps _ _ _ (s₁.setTop (mkF m 10 #[vI p1, vI p2, vI p3, vJ 661971961083, .second, vJ 1049200734846, .second, .unset, .unset, .unset, .unset, .unset, .unset] [iI p2])) _
      refine XS.ifNo X0.here hx rfl (hb hby d2_10) rfl ((if0 _ _).trans (feq hc1).1) ?_
      show Steps _ _ _ (s₁.setTop (mkF m 13 #[vI p1, vI p2, vI p3, vJ 661971961083, .second, vJ 1049200734846, .second, .unset, .unset, .unset, .unset, .unset, .unset] [])) _
      refine XS.iloadN X0.here hx rfl (hb hby d2_13) rfl ?_
      show Steps _ _ _ (s₁.setTop (mkF m 14 #[vI p1, vI p2, vI p3, vJ 661971961083, .second, vJ 1049200734846, .second, .unset, .unset, .unset, .unset, .unset, .unset] [iI p1])) _
      refine st14 _ ?_
      show Steps _ _ _ (T14.setTop (mkF m 113 #[vI p1, vI p2, vI p3, vJ 661971961083, .second, vJ 1049200734846, .second, vJ v12, .second, vJ v13, .second, .unset, .unset] [])) _
      refine XS.lload X14.here hx rfl (hb hby d2_113) rfl ?_
      show Steps _ _ _ (T14.setTop (mkF m 115 #[vI p1, vI p2, vI p3, vJ 661971961083, .second, vJ 1049200734846, .second, vJ v12, .second, vJ v13, .second, .unset, .unset] [iJ v12])) _
      refine XS.bipush X14.here hx rfl (hb hby d2_115) ?_
      show Steps _ _ _ (T14.setTop (mkF m 117 #[vI p1, vI p2, vI p3, vJ 661971961083, .second, vJ 1049200734846, .second, vJ v12, .second, vJ v13, .second, .unset, .unset] [iI 41, iJ v12])) _
      refine XS.lshr X14.here hx rfl (hb hby d2_117) rfl ?_
      show Steps _ _ _ (T14.setTop (mkF m 118 #[vI p1, vI p2, vI p3, vJ 661971961083, .second, vJ 1049200734846, .second, vJ v12, .second, vJ v13, .second, .unset, .unset] [iJ (v12 >>> ((41 : Int32) &&& 0x3f).toInt64)])) _
      refine XS.iloadN X14.here hx rfl (hb hby d2_118) rfl ?_
      show Steps _ _ _ (T14.setTop (mkF m 119 #[vI p1, vI p2, vI p3, vJ 661971961083, .second, vJ 1049200734846, .second, vJ v12, .second, vJ v13, .second, .unset, .unset] [iI p3, iJ (v12 >>> ((41 : Int32) &&& 0x3f).toInt64)])) _
      refine XS.i2l X14.here hx rfl (hb hby d2_119) rfl ?_
      show Steps _ _ _ (T14.setTop (mkF m 120 #[vI p1, vI p2, vI p3, vJ 661971961083, .second, vJ 1049200734846, .second, vJ v12, .second, vJ v13, .second, .unset, .unset] [iJ p3.toInt64, iJ (v12 >>> ((41 : Int32) &&& 0x3f).toInt64)])) _
      refine XS.lcmp X14.here hx rfl (hb hby d2_120) rfl ?_
      show Steps _ _ _ (T14.setTop (mkF m 121 #[vI p1, vI p2, vI p3, vJ 661971961083, .second, vJ 1049200734846, .second, vJ v12, .second, vJ v13, .second, .unset, .unset] [iI (lcmpW (v12 >>> ((41 : Int32) &&& 0x3f).toInt64) p3.toInt64)])) _
      refine st19 _ ?_
      show Steps _ _ _ (T19.setTop (mkF m 140 #[vI p1, vI p2, vI p3, vJ 661971961083, .second, vJ 1049200734846, .second, vJ v12, .second, vJ v13, .second, .unset, .unset] [iI v18])) _
      exact retN X19 hx (t := .boolean) Bd.returns (by simp) (hb hby d2_140) hr
    · show Q2 Z p1 p2 p3 h0 _ T19.heap _
      rw [e19]
      exact ⟨by subst hv18 hv13 hv12; first | rfl | (simp only [own_sand, if_neg hc1]; done) | (simp only [own_sand, if_neg hc1]; rfl) | (simp only [own_sand, if_neg hc1, nar] ; first | rfl | (simp; done) | decide), rfl, rfl⟩
def own_p (k : Int32) : Int64 := ([1, 10, 100, 1000, 10000, 100000, 1000000, 10000000, 100000000, 1000000000, 10000000000, 100000000000, 1000000000000, 10000000000000, 100000000000000, 1000000000000000, 10000000000000000, 100000000000000000, 1000000000000000000] : List Int64).getD k.toNatClampNeg 0
theorem own_l0 : (0 : Int32).toInt = 0 := rfl
theorem own_l1 : (1 : Int32).toInt = 1 := rfl
theorem own_l18 : (18 : Int32).toInt = 18 := rfl
theorem own_l19 : (19 : Int32).toInt = 19 := rfl
theorem own_pAt (k : Int32) (h' : ¬ k < 0 ∧ k < (19 : Int32)) : ([(.long (1 : Int64)), (.long (10 : Int64)), (.long (100 : Int64)), (.long (1000 : Int64)), (.long (10000 : Int64)), (.long (100000 : Int64)), (.long (1000000 : Int64)), (.long (10000000 : Int64)), (.long (100000000 : Int64)), (.long (1000000000 : Int64)), (.long (10000000000 : Int64)), (.long (100000000000 : Int64)), (.long (1000000000000 : Int64)), (.long (10000000000000 : Int64)), (.long (100000000000000 : Int64)), (.long (1000000000000000 : Int64)), (.long (10000000000000000 : Int64)), (.long (100000000000000000 : Int64)), (.long (1000000000000000000 : Int64))] : List Value).getD k.toNatClampNeg (.long (0 : Int64)) = .long (own_p k) := by
  have h : k.toNatClampNeg < 19 := by
    obtain ⟨q1, q2⟩ := h'
    simp only [Int32.lt_iff_toInt_lt, own_l0, own_l19] at q1 q2
    simp only [Int32.toNatClampNeg]; omega
  unfold own_p
  generalize k.toNatClampNeg = n at h ⊢
  match n, h with
  | 0, _ => rfl
  | 1, _ => rfl
  | 2, _ => rfl
  | 3, _ => rfl
  | 4, _ => rfl
  | 5, _ => rfl
  | 6, _ => rfl
  | 7, _ => rfl
  | 8, _ => rfl
  | 9, _ => rfl
  | 10, _ => rfl
  | 11, _ => rfl
  | 12, _ => rfl
  | 13, _ => rfl
  | 14, _ => rfl
  | 15, _ => rfl
  | 16, _ => rfl
  | 17, _ => rfl
  | 18, _ => rfl
  | _ + 19, h => exact absurd h (by omega)

def own_ex (p1 : Int32) (p2 : Int32) (p3 : Int32) : Int32 := (if p1 < (0 : Int32) then (if (-p3) < (0 : Int32) then (0 : Int32) else (if (18 : Int32) < (-p3) then (0 : Int32) else (nar .boolean (if ((if p2 = (0 : Int32) then (4 : Int64) else (3 : Int64)) * (own_p (-p3))) < ((1 : Int64) <<< ((-p1) &&& 0x3f).toInt64) then (0 : Int32) else (if (-p3) = (0 : Int32) then (1 : Int32) else (if ((if p2 = (0 : Int32) then (4 : Int64) else (3 : Int64)) * (own_p ((-p3) - (1 : Int32)))) < ((1 : Int64) <<< ((-p1) &&& 0x3f).toInt64) then (1 : Int32) else (0 : Int32))))))) else (if p3 < (0 : Int32) then (0 : Int32) else (if (18 : Int32) < p3 then (0 : Int32) else (nar .boolean (if ((if p2 = (0 : Int32) then (4 : Int64) else (3 : Int64)) <<< (p1 &&& 0x3f).toInt64) < (own_p p3) then (0 : Int32) else (if p3 = (18 : Int32) then (1 : Int32) else (if ((if p2 = (0 : Int32) then (4 : Int64) else (3 : Int64)) <<< (p1 &&& 0x3f).toInt64) < (own_p (p3 + (1 : Int32))) then (1 : Int32) else (0 : Int32))))))))
theorem d3_0 : decode method_4_code 0 = .ok (.iload_n 1, 1) := by decide +kernel
theorem d3_1 : decode method_4_code 1 = .ok (.ifCond .eq 9, 3) := by decide +kernel
theorem d3_4 : decode method_4_code 4 = .ok (.ldc2_w 29, 3) := by decide +kernel
theorem d3_7 : decode method_4_code 7 = .ok (.goto 6, 3) := by decide +kernel
theorem d3_10 : decode method_4_code 10 = .ok (.ldc2_w 31, 3) := by decide +kernel
theorem d3_13 : decode method_4_code 13 = .ok (.lstore_n 3, 1) := by decide +kernel
theorem d3_14 : decode method_4_code 14 = .ok (.bipush 19, 2) := by decide +kernel
theorem d3_16 : decode method_4_code 16 = .ok (.newarray .long, 2) := by decide +kernel
theorem d3_18 : decode method_4_code 18 = .ok (.dup, 1) := by decide +kernel
theorem d3_19 : decode method_4_code 19 = .ok (.iconst 0, 1) := by decide +kernel
theorem d3_20 : decode method_4_code 20 = .ok (.lconst 1, 1) := by decide +kernel
theorem d3_21 : decode method_4_code 21 = .ok (.lastore, 1) := by decide +kernel
theorem d3_22 : decode method_4_code 22 = .ok (.dup, 1) := by decide +kernel
theorem d3_23 : decode method_4_code 23 = .ok (.iconst 1, 1) := by decide +kernel
theorem d3_24 : decode method_4_code 24 = .ok (.ldc2_w 33, 3) := by decide +kernel
theorem d3_27 : decode method_4_code 27 = .ok (.lastore, 1) := by decide +kernel
theorem d3_28 : decode method_4_code 28 = .ok (.dup, 1) := by decide +kernel
theorem d3_29 : decode method_4_code 29 = .ok (.iconst 2, 1) := by decide +kernel
theorem d3_30 : decode method_4_code 30 = .ok (.ldc2_w 35, 3) := by decide +kernel
theorem d3_33 : decode method_4_code 33 = .ok (.lastore, 1) := by decide +kernel
theorem d3_34 : decode method_4_code 34 = .ok (.dup, 1) := by decide +kernel
theorem d3_35 : decode method_4_code 35 = .ok (.iconst 3, 1) := by decide +kernel
theorem d3_36 : decode method_4_code 36 = .ok (.ldc2_w 37, 3) := by decide +kernel
theorem d3_39 : decode method_4_code 39 = .ok (.lastore, 1) := by decide +kernel
theorem d3_40 : decode method_4_code 40 = .ok (.dup, 1) := by decide +kernel
theorem d3_41 : decode method_4_code 41 = .ok (.iconst 4, 1) := by decide +kernel
theorem d3_42 : decode method_4_code 42 = .ok (.ldc2_w 39, 3) := by decide +kernel
theorem d3_45 : decode method_4_code 45 = .ok (.lastore, 1) := by decide +kernel
theorem d3_46 : decode method_4_code 46 = .ok (.dup, 1) := by decide +kernel
theorem d3_47 : decode method_4_code 47 = .ok (.iconst 5, 1) := by decide +kernel
theorem d3_48 : decode method_4_code 48 = .ok (.ldc2_w 41, 3) := by decide +kernel
theorem d3_51 : decode method_4_code 51 = .ok (.lastore, 1) := by decide +kernel
theorem d3_52 : decode method_4_code 52 = .ok (.dup, 1) := by decide +kernel
theorem d3_53 : decode method_4_code 53 = .ok (.bipush 6, 2) := by decide +kernel
theorem d3_55 : decode method_4_code 55 = .ok (.ldc2_w 43, 3) := by decide +kernel
theorem d3_58 : decode method_4_code 58 = .ok (.lastore, 1) := by decide +kernel
theorem d3_59 : decode method_4_code 59 = .ok (.dup, 1) := by decide +kernel
theorem d3_60 : decode method_4_code 60 = .ok (.bipush 7, 2) := by decide +kernel
theorem d3_62 : decode method_4_code 62 = .ok (.ldc2_w 45, 3) := by decide +kernel
theorem d3_65 : decode method_4_code 65 = .ok (.lastore, 1) := by decide +kernel
theorem d3_66 : decode method_4_code 66 = .ok (.dup, 1) := by decide +kernel
theorem d3_67 : decode method_4_code 67 = .ok (.bipush 8, 2) := by decide +kernel
theorem d3_69 : decode method_4_code 69 = .ok (.ldc2_w 47, 3) := by decide +kernel
theorem d3_72 : decode method_4_code 72 = .ok (.lastore, 1) := by decide +kernel
theorem d3_73 : decode method_4_code 73 = .ok (.dup, 1) := by decide +kernel
theorem d3_74 : decode method_4_code 74 = .ok (.bipush 9, 2) := by decide +kernel
theorem d3_76 : decode method_4_code 76 = .ok (.ldc2_w 49, 3) := by decide +kernel
theorem d3_79 : decode method_4_code 79 = .ok (.lastore, 1) := by decide +kernel
theorem d3_80 : decode method_4_code 80 = .ok (.dup, 1) := by decide +kernel
theorem d3_81 : decode method_4_code 81 = .ok (.bipush 10, 2) := by decide +kernel
theorem d3_83 : decode method_4_code 83 = .ok (.ldc2_w 51, 3) := by decide +kernel
theorem d3_86 : decode method_4_code 86 = .ok (.lastore, 1) := by decide +kernel
theorem d3_87 : decode method_4_code 87 = .ok (.dup, 1) := by decide +kernel
theorem d3_88 : decode method_4_code 88 = .ok (.bipush 11, 2) := by decide +kernel
theorem d3_90 : decode method_4_code 90 = .ok (.ldc2_w 53, 3) := by decide +kernel
theorem d3_93 : decode method_4_code 93 = .ok (.lastore, 1) := by decide +kernel
theorem d3_94 : decode method_4_code 94 = .ok (.dup, 1) := by decide +kernel
theorem d3_95 : decode method_4_code 95 = .ok (.bipush 12, 2) := by decide +kernel
theorem d3_97 : decode method_4_code 97 = .ok (.ldc2_w 55, 3) := by decide +kernel
theorem d3_100 : decode method_4_code 100 = .ok (.lastore, 1) := by decide +kernel
theorem d3_101 : decode method_4_code 101 = .ok (.dup, 1) := by decide +kernel
theorem d3_102 : decode method_4_code 102 = .ok (.bipush 13, 2) := by decide +kernel
theorem d3_104 : decode method_4_code 104 = .ok (.ldc2_w 57, 3) := by decide +kernel
theorem d3_107 : decode method_4_code 107 = .ok (.lastore, 1) := by decide +kernel
theorem d3_108 : decode method_4_code 108 = .ok (.dup, 1) := by decide +kernel
theorem d3_109 : decode method_4_code 109 = .ok (.bipush 14, 2) := by decide +kernel
theorem d3_111 : decode method_4_code 111 = .ok (.ldc2_w 59, 3) := by decide +kernel
theorem d3_114 : decode method_4_code 114 = .ok (.lastore, 1) := by decide +kernel
theorem d3_115 : decode method_4_code 115 = .ok (.dup, 1) := by decide +kernel
theorem d3_116 : decode method_4_code 116 = .ok (.bipush 15, 2) := by decide +kernel
theorem d3_118 : decode method_4_code 118 = .ok (.ldc2_w 61, 3) := by decide +kernel
theorem d3_121 : decode method_4_code 121 = .ok (.lastore, 1) := by decide +kernel
theorem d3_122 : decode method_4_code 122 = .ok (.dup, 1) := by decide +kernel
theorem d3_123 : decode method_4_code 123 = .ok (.bipush 16, 2) := by decide +kernel
theorem d3_125 : decode method_4_code 125 = .ok (.ldc2_w 63, 3) := by decide +kernel
theorem d3_128 : decode method_4_code 128 = .ok (.lastore, 1) := by decide +kernel
theorem d3_129 : decode method_4_code 129 = .ok (.dup, 1) := by decide +kernel
theorem d3_130 : decode method_4_code 130 = .ok (.bipush 17, 2) := by decide +kernel
theorem d3_132 : decode method_4_code 132 = .ok (.ldc2_w 65, 3) := by decide +kernel
theorem d3_135 : decode method_4_code 135 = .ok (.lastore, 1) := by decide +kernel
theorem d3_136 : decode method_4_code 136 = .ok (.dup, 1) := by decide +kernel
theorem d3_137 : decode method_4_code 137 = .ok (.bipush 18, 2) := by decide +kernel
theorem d3_139 : decode method_4_code 139 = .ok (.ldc2_w 67, 3) := by decide +kernel
theorem d3_142 : decode method_4_code 142 = .ok (.lastore, 1) := by decide +kernel
theorem d3_143 : decode method_4_code 143 = .ok (.astore 5, 2) := by decide +kernel
theorem d3_145 : decode method_4_code 145 = .ok (.iload_n 0, 1) := by decide +kernel
theorem d3_146 : decode method_4_code 146 = .ok (.ifCond .lt 54, 3) := by decide +kernel
theorem d3_149 : decode method_4_code 149 = .ok (.iload_n 2, 1) := by decide +kernel
theorem d3_150 : decode method_4_code 150 = .ok (.ifCond .lt 9, 3) := by decide +kernel
theorem d3_153 : decode method_4_code 153 = .ok (.iload_n 2, 1) := by decide +kernel
theorem d3_154 : decode method_4_code 154 = .ok (.bipush 18, 2) := by decide +kernel
theorem d3_156 : decode method_4_code 156 = .ok (.if_icmp .le 5, 3) := by decide +kernel
theorem d3_159 : decode method_4_code 159 = .ok (.iconst 0, 1) := by decide +kernel
theorem d3_160 : decode method_4_code 160 = .ok (.ireturn, 1) := by decide +kernel
theorem d3_161 : decode method_4_code 161 = .ok (.lload_n 3, 1) := by decide +kernel
theorem d3_162 : decode method_4_code 162 = .ok (.iload_n 0, 1) := by decide +kernel
theorem d3_163 : decode method_4_code 163 = .ok (.lshl, 1) := by decide +kernel
theorem d3_164 : decode method_4_code 164 = .ok (.lstore 6, 2) := by decide +kernel
theorem d3_166 : decode method_4_code 166 = .ok (.aload 5, 2) := by decide +kernel
theorem d3_168 : decode method_4_code 168 = .ok (.iload_n 2, 1) := by decide +kernel
theorem d3_169 : decode method_4_code 169 = .ok (.laload, 1) := by decide +kernel
theorem d3_170 : decode method_4_code 170 = .ok (.lload 6, 2) := by decide +kernel
theorem d3_172 : decode method_4_code 172 = .ok (.lcmp, 1) := by decide +kernel
theorem d3_173 : decode method_4_code 173 = .ok (.ifCond .gt 25, 3) := by decide +kernel
theorem d3_176 : decode method_4_code 176 = .ok (.iload_n 2, 1) := by decide +kernel
theorem d3_177 : decode method_4_code 177 = .ok (.bipush 18, 2) := by decide +kernel
theorem d3_179 : decode method_4_code 179 = .ok (.if_icmp .eq 15, 3) := by decide +kernel
theorem d3_182 : decode method_4_code 182 = .ok (.lload 6, 2) := by decide +kernel
theorem d3_184 : decode method_4_code 184 = .ok (.aload 5, 2) := by decide +kernel
theorem d3_186 : decode method_4_code 186 = .ok (.iload_n 2, 1) := by decide +kernel
theorem d3_187 : decode method_4_code 187 = .ok (.iconst 1, 1) := by decide +kernel
theorem d3_188 : decode method_4_code 188 = .ok (.iadd, 1) := by decide +kernel
theorem d3_189 : decode method_4_code 189 = .ok (.laload, 1) := by decide +kernel
theorem d3_190 : decode method_4_code 190 = .ok (.lcmp, 1) := by decide +kernel
theorem d3_191 : decode method_4_code 191 = .ok (.ifCond .ge 7, 3) := by decide +kernel
theorem d3_194 : decode method_4_code 194 = .ok (.iconst 1, 1) := by decide +kernel
theorem d3_195 : decode method_4_code 195 = .ok (.goto 4, 3) := by decide +kernel
theorem d3_198 : decode method_4_code 198 = .ok (.iconst 0, 1) := by decide +kernel
theorem d3_199 : decode method_4_code 199 = .ok (.ireturn, 1) := by decide +kernel
theorem d3_200 : decode method_4_code 200 = .ok (.iload_n 2, 1) := by decide +kernel
theorem d3_201 : decode method_4_code 201 = .ok (.ineg, 1) := by decide +kernel
theorem d3_202 : decode method_4_code 202 = .ok (.istore 6, 2) := by decide +kernel
theorem d3_204 : decode method_4_code 204 = .ok (.iload 6, 2) := by decide +kernel
theorem d3_206 : decode method_4_code 206 = .ok (.ifCond .lt 10, 3) := by decide +kernel
theorem d3_209 : decode method_4_code 209 = .ok (.iload 6, 2) := by decide +kernel
theorem d3_211 : decode method_4_code 211 = .ok (.bipush 18, 2) := by decide +kernel
theorem d3_213 : decode method_4_code 213 = .ok (.if_icmp .le 5, 3) := by decide +kernel
theorem d3_216 : decode method_4_code 216 = .ok (.iconst 0, 1) := by decide +kernel
theorem d3_217 : decode method_4_code 217 = .ok (.ireturn, 1) := by decide +kernel
theorem d3_218 : decode method_4_code 218 = .ok (.lconst 1, 1) := by decide +kernel
theorem d3_219 : decode method_4_code 219 = .ok (.iload_n 0, 1) := by decide +kernel
theorem d3_220 : decode method_4_code 220 = .ok (.ineg, 1) := by decide +kernel
theorem d3_221 : decode method_4_code 221 = .ok (.lshl, 1) := by decide +kernel
theorem d3_222 : decode method_4_code 222 = .ok (.lstore 7, 2) := by decide +kernel
theorem d3_224 : decode method_4_code 224 = .ok (.lload 7, 2) := by decide +kernel
theorem d3_226 : decode method_4_code 226 = .ok (.lload_n 3, 1) := by decide +kernel
theorem d3_227 : decode method_4_code 227 = .ok (.aload 5, 2) := by decide +kernel
theorem d3_229 : decode method_4_code 229 = .ok (.iload 6, 2) := by decide +kernel
theorem d3_231 : decode method_4_code 231 = .ok (.laload, 1) := by decide +kernel
theorem d3_232 : decode method_4_code 232 = .ok (.lmul, 1) := by decide +kernel
theorem d3_233 : decode method_4_code 233 = .ok (.lcmp, 1) := by decide +kernel
theorem d3_234 : decode method_4_code 234 = .ok (.ifCond .gt 27, 3) := by decide +kernel
theorem d3_237 : decode method_4_code 237 = .ok (.iload 6, 2) := by decide +kernel
theorem d3_239 : decode method_4_code 239 = .ok (.ifCond .eq 18, 3) := by decide +kernel
theorem d3_242 : decode method_4_code 242 = .ok (.lload_n 3, 1) := by decide +kernel
theorem d3_243 : decode method_4_code 243 = .ok (.aload 5, 2) := by decide +kernel
theorem d3_245 : decode method_4_code 245 = .ok (.iload 6, 2) := by decide +kernel
theorem d3_247 : decode method_4_code 247 = .ok (.iconst 1, 1) := by decide +kernel
theorem d3_248 : decode method_4_code 248 = .ok (.isub, 1) := by decide +kernel
theorem d3_249 : decode method_4_code 249 = .ok (.laload, 1) := by decide +kernel
theorem d3_250 : decode method_4_code 250 = .ok (.lmul, 1) := by decide +kernel
theorem d3_251 : decode method_4_code 251 = .ok (.lload 7, 2) := by decide +kernel
theorem d3_253 : decode method_4_code 253 = .ok (.lcmp, 1) := by decide +kernel
theorem d3_254 : decode method_4_code 254 = .ok (.ifCond .ge 7, 3) := by decide +kernel
theorem d3_257 : decode method_4_code 257 = .ok (.iconst 1, 1) := by decide +kernel
theorem d3_258 : decode method_4_code 258 = .ok (.goto 4, 3) := by decide +kernel
theorem d3_261 : decode method_4_code 261 = .ok (.iconst 0, 1) := by decide +kernel
theorem d3_262 : decode method_4_code 262 = .ok (.ireturn, 1) := by decide +kernel
theorem ef_3 (m : MethodId) (x0 : Int32) (x1 : Int32) (x2 : Int32) : entryFrame m #[(.int x0), (.int x1), (.int x2)] 9 = mkF m 0 #[.val (.int x0), .val (.int x1), .val (.int x2), .unset, .unset, .unset, .unset, .unset, .unset] [] := by first | (simp [entryFrame, mkF, argsToLocals, Value.category]; done) | rfl
def Q3 (Z : State) (p1 : Int32) (p2 : Int32) (p3 : Int32) (h0 : Heap) (n0 : Nat) (v : Option Value) (h : Heap) (L : List Loc) : Prop := v = some (.int (own_ex p1 p2 p3)) ∧ Fr n0 L
set_option maxRecDepth 65536 in
set_option maxHeartbeats 40000000 in
theorem rm3 (l : Launch) (Z : State) (a0 : Array Value) (hw : ∀ d ∈ tables_1, d.before a0 Z = true) (ws : List Jvm.Cond) (p1 : Int32) (p2 : Int32) (p3 : Int32) (h0 : Heap) (n0 : Nat) (Z0 : n0 ≤ h0.size) :
    MetFree l (⟨"com/example/plainjson/plainjson/JsonNumberFloorLog10PinLaw", "exact", "(IZI)Z"⟩ : MethodName) (head1 (Jvm.Cond.code (⟨"com/example/plainjson/plainjson/JsonNumberFloorLog10PinLaw", "exact", "(IZI)Z"⟩ : MethodName) method_4_code 9 (some .boolean) :: ws) ({ frames := 0, cells := 1, slots := 19, locals := 0 } : Room)) (fun a U => a = #[(.int p1), (.int p2), (.int p3)] ∧ Z.Warmed39 U.vm ∧ U.heap = h0) (fun _ _ _ _ _ => True) (fun _ U o U' => ∃ v L, o = .returned v ∧ Q3 Z p1 p2 p3 h0 n0 v U'.heap L ∧ FrameEnd U o U' L ({ frames := 0, cells := 1, slots := 19, locals := 0 } : Room).cells ({ frames := 0, cells := 1, slots := 19, locals := 0 } : Room).slots) := by
  refine MetFree.of_bodySF (plainFor_of_name pn_1) hisR ?_
  intro p e s m args below meth c s₁ Bd hml0 hP hK
  obtain ⟨rfl, hZ, hh⟩ := hP
  have hx := Bd.exec
  have hby := Bd.bytes
  have hml : c.maxLocals = 9 := hml0
  have hown : s.vm.findClass "com/example/plainjson/plainjson/JsonNumberFloorLog10PinLaw" = some m.cls := findClass_of_methodNamed Bd.named
  have hnm := (name_of_methodNamed Bd.named Bd.method).1
  have X0 : Stand p l e ({ frames := 0, cells := 1, slots := 19, locals := 0 } : Room) s m #[(.int p1), (.int p2), (.int p3)] below meth c s₁ [] 0 0 := Stand.of_body Bd
  have e0 : s₁.heap = h0 := by rw [← hh, Bd.state]; rfl
  have N0 := Fr.nil n0
  have K0 := Keep.refl h0 []
  have pre0 : ∀ t, Steps p.tables e below (s₁.setTop (mkF m 0 #[.val (.int p1), .val (.int p2), .val (.int p3), .unset, .unset, .unset, .unset, .unset, .unset] [])) t → Steps p.tables e below (s₁.setTop (entryFrame m #[(.int p1), (.int p2), (.int p3)] 9)) t := fun t k => castTop (ef_3 m p1 p2 p3) k
  obtain ⟨v1, hv1⟩ : ∃ z : Int64, z = (if p2 = (0 : Int32) then (4 : Int64) else (3 : Int64)) := ⟨_, rfl⟩
  obtain ⟨T2, X2, e2, st2⟩ : own_Mid X0 h0 (mkF m 1 #[vI p1, vI p2, vI p3, .unset, .unset, .unset, .unset, .unset, .unset] [iI p2]) (mkF m 13 #[vI p1, vI p2, vI p3, .unset, .unset, .unset, .unset, .unset, .unset] [iJ v1]) := by
    by_cases hc3 : p2 = (0 : Int32)
    · refine ⟨s₁, X0, e0, fun t kt => ?_⟩
      subst hv1
      simp only [if_pos hc3] at kt
      show Steps _ _ _ (s₁.setTop (mkF m 1 #[vI p1, vI p2, vI p3, .unset, .unset, .unset, .unset, .unset, .unset] [iI p2])) _
      refine XS.ifYes X0.here hx rfl (pc0 := 1) (pc' := 10) rfl (hb hby d3_1) rfl ((if0 _ _).trans (teq hc3).1) (by decide) (by decide) ?_
      show Steps _ _ _ (s₁.setTop (mkF m 10 #[vI p1, vI p2, vI p3, .unset, .unset, .unset, .unset, .unset, .unset] [])) _
      refine X0.ldc2Long hx hown (mvT hZ (hw _ (List.mem_of_getElem? (i := 38) rfl))) (g := (mkF m 10 #[vI p1, vI p2, vI p3, .unset, .unset, .unset, .unset, .unset, .unset] [])) rfl (hb hby d3_10) _ ?_
      exact kt
    · refine ⟨s₁, X0, e0, fun t kt => ?_⟩
      subst hv1
      simp only [if_neg hc3] at kt
      show Steps _ _ _ (s₁.setTop (mkF m 1 #[vI p1, vI p2, vI p3, .unset, .unset, .unset, .unset, .unset, .unset] [iI p2])) _
      refine XS.ifNo X0.here hx rfl (hb hby d3_1) rfl ((if0 _ _).trans (feq hc3).1) ?_
      show Steps _ _ _ (s₁.setTop (mkF m 4 #[vI p1, vI p2, vI p3, .unset, .unset, .unset, .unset, .unset, .unset] [])) _
      refine X0.ldc2Long hx hown (mvT hZ (hw _ (List.mem_of_getElem? (i := 16) rfl))) (g := (mkF m 4 #[vI p1, vI p2, vI p3, .unset, .unset, .unset, .unset, .unset, .unset] [])) rfl (hb hby d3_4) _ ?_
      show Steps _ _ _ (s₁.setTop (mkF m 7 #[vI p1, vI p2, vI p3, .unset, .unset, .unset, .unset, .unset, .unset] [iJ 3])) _
      refine XS.goto X0.here hx rfl (pc0 := 7) (pc' := 13) rfl (hb hby d3_7) (by decide) (by decide) ?_
      exact kt
  obtain ⟨T4, h4, k4, X4, e4, E4, A4, st4⟩ := newP X2 hx hZ (hw _ (List.mem_of_getElem? (i := 17) rfl)) e2 (g := (mkF m 16 #[vI p1, vI p2, vI p3, vJ v1, .second, .unset, .unset, .unset, .unset] [iI 19])) rfl (hb hby d3_16) rfl (by decide) (cap := 19) (by decide) (by decide) (by decide) (by decide)
  obtain ⟨b4, g4⟩ : ∃ z, z = h0.size := ⟨_, rfl⟩
  rw [← g4] at A4 st4
  have sz_b4 : h0.size ≤ b4 := Nat.le_trans K0.1 (Nat.le_of_eq g4.symm)
  have g_b4 : n0 ≤ b4 := Nat.le_trans Z0 sz_b4
  have K4 : Keep h0 h4 [] := K0.ext E4
  have V4 : Arv Z h4 b4 k4 .long (19 : Int32) [(.long (0 : Int64)), (.long (0 : Int64)), (.long (0 : Int64)), (.long (0 : Int64)), (.long (0 : Int64)), (.long (0 : Int64)), (.long (0 : Int64)), (.long (0 : Int64)), (.long (0 : Int64)), (.long (0 : Int64)), (.long (0 : Int64)), (.long (0 : Int64)), (.long (0 : Int64)), (.long (0 : Int64)), (.long (0 : Int64)), (.long (0 : Int64)), (.long (0 : Int64)), (.long (0 : Int64)), (.long (0 : Int64))] (.long (0 : Int64)) := (Arv.new A4 (by decide)).pad (pad_rep [] (.long (0 : Int64)) 19)
  obtain ⟨cl5, Ar5, q5, S5, M5, H5, G5⟩ := V4
  have hin6 : ¬ ((0 : Int32) < 0 ∨ cl5.slots.size ≤ ((0 : Int32)).toNatClampNeg) := inb_of S5 ⟨by decide, by decide⟩
  obtain ⟨T7, h7, X7, e7, W7, st7⟩ := stJ X4 hx hZ e4 Ar5 (j := (0 : Int32)) hin6 (g := (mkF m 21 #[vI p1, vI p2, vI p3, vJ v1, .second, .unset, .unset, .unset, .unset] [iJ 1, iI 0, iR b4, iR b4])) rfl rfl (hb hby d3_21)
  have V7 : Arv Z h7 b4 k4 .long (19 : Int32) [(.long (1 : Int64)), (.long (0 : Int64)), (.long (0 : Int64)), (.long (0 : Int64)), (.long (0 : Int64)), (.long (0 : Int64)), (.long (0 : Int64)), (.long (0 : Int64)), (.long (0 : Int64)), (.long (0 : Int64)), (.long (0 : Int64)), (.long (0 : Int64)), (.long (0 : Int64)), (.long (0 : Int64)), (.long (0 : Int64)), (.long (0 : Int64)), (.long (0 : Int64)), (.long (0 : Int64)), (.long (0 : Int64))] (.long (0 : Int64)) := Arv.set Ar5 q5 S5 M5 H5 G5 rfl W7 0 rfl (Nat.le_of_ble_eq_true rfl)
  have K7 : Keep h0 h7 [] := K4.wr W7 (Or.inr sz_b4)
  have N7 := Fr.snoc X7 N0 g_b4
  obtain ⟨cl8, Ar8, q8, S8, M8, H8, G8⟩ := V7
  have hin9 : ¬ ((1 : Int32) < 0 ∨ cl8.slots.size ≤ ((1 : Int32)).toNatClampNeg) := inb_of S8 ⟨by decide, by decide⟩
  obtain ⟨T10, h10, X10, e10, W10, st10⟩ := stJ X7 hx hZ e7 Ar8 (j := (1 : Int32)) hin9 (g := (mkF m 27 #[vI p1, vI p2, vI p3, vJ v1, .second, .unset, .unset, .unset, .unset] [iJ 10, iI 1, iR b4, iR b4])) rfl rfl (hb hby d3_27)
  have V10 : Arv Z h10 b4 k4 .long (19 : Int32) [(.long (1 : Int64)), (.long (10 : Int64)), (.long (0 : Int64)), (.long (0 : Int64)), (.long (0 : Int64)), (.long (0 : Int64)), (.long (0 : Int64)), (.long (0 : Int64)), (.long (0 : Int64)), (.long (0 : Int64)), (.long (0 : Int64)), (.long (0 : Int64)), (.long (0 : Int64)), (.long (0 : Int64)), (.long (0 : Int64)), (.long (0 : Int64)), (.long (0 : Int64)), (.long (0 : Int64)), (.long (0 : Int64))] (.long (0 : Int64)) := Arv.set Ar8 q8 S8 M8 H8 G8 rfl W10 1 rfl (Nat.le_of_ble_eq_true rfl)
  have K10 : Keep h0 h10 [] := K7.wr W10 (Or.inr sz_b4)
  have N10 := Fr.snoc X10 N7 g_b4
  obtain ⟨cl11, Ar11, q11, S11, M11, H11, G11⟩ := V10
  have hin12 : ¬ ((2 : Int32) < 0 ∨ cl11.slots.size ≤ ((2 : Int32)).toNatClampNeg) := inb_of S11 ⟨by decide, by decide⟩
  obtain ⟨T13, h13, X13, e13, W13, st13⟩ := stJ X10 hx hZ e10 Ar11 (j := (2 : Int32)) hin12 (g := (mkF m 33 #[vI p1, vI p2, vI p3, vJ v1, .second, .unset, .unset, .unset, .unset] [iJ 100, iI 2, iR b4, iR b4])) rfl rfl (hb hby d3_33)
  have V13 : Arv Z h13 b4 k4 .long (19 : Int32) [(.long (1 : Int64)), (.long (10 : Int64)), (.long (100 : Int64)), (.long (0 : Int64)), (.long (0 : Int64)), (.long (0 : Int64)), (.long (0 : Int64)), (.long (0 : Int64)), (.long (0 : Int64)), (.long (0 : Int64)), (.long (0 : Int64)), (.long (0 : Int64)), (.long (0 : Int64)), (.long (0 : Int64)), (.long (0 : Int64)), (.long (0 : Int64)), (.long (0 : Int64)), (.long (0 : Int64)), (.long (0 : Int64))] (.long (0 : Int64)) := Arv.set Ar11 q11 S11 M11 H11 G11 rfl W13 2 rfl (Nat.le_of_ble_eq_true rfl)
  have K13 : Keep h0 h13 [] := K10.wr W13 (Or.inr sz_b4)
  have N13 := Fr.snoc X13 N10 g_b4
  obtain ⟨cl14, Ar14, q14, S14, M14, H14, G14⟩ := V13
  have hin15 : ¬ ((3 : Int32) < 0 ∨ cl14.slots.size ≤ ((3 : Int32)).toNatClampNeg) := inb_of S14 ⟨by decide, by decide⟩
  obtain ⟨T16, h16, X16, e16, W16, st16⟩ := stJ X13 hx hZ e13 Ar14 (j := (3 : Int32)) hin15 (g := (mkF m 39 #[vI p1, vI p2, vI p3, vJ v1, .second, .unset, .unset, .unset, .unset] [iJ 1000, iI 3, iR b4, iR b4])) rfl rfl (hb hby d3_39)
  have V16 : Arv Z h16 b4 k4 .long (19 : Int32) [(.long (1 : Int64)), (.long (10 : Int64)), (.long (100 : Int64)), (.long (1000 : Int64)), (.long (0 : Int64)), (.long (0 : Int64)), (.long (0 : Int64)), (.long (0 : Int64)), (.long (0 : Int64)), (.long (0 : Int64)), (.long (0 : Int64)), (.long (0 : Int64)), (.long (0 : Int64)), (.long (0 : Int64)), (.long (0 : Int64)), (.long (0 : Int64)), (.long (0 : Int64)), (.long (0 : Int64)), (.long (0 : Int64))] (.long (0 : Int64)) := Arv.set Ar14 q14 S14 M14 H14 G14 rfl W16 3 rfl (Nat.le_of_ble_eq_true rfl)
  have K16 : Keep h0 h16 [] := K13.wr W16 (Or.inr sz_b4)
  have N16 := Fr.snoc X16 N13 g_b4
  obtain ⟨cl17, Ar17, q17, S17, M17, H17, G17⟩ := V16
  have hin18 : ¬ ((4 : Int32) < 0 ∨ cl17.slots.size ≤ ((4 : Int32)).toNatClampNeg) := inb_of S17 ⟨by decide, by decide⟩
  obtain ⟨T19, h19, X19, e19, W19, st19⟩ := stJ X16 hx hZ e16 Ar17 (j := (4 : Int32)) hin18 (g := (mkF m 45 #[vI p1, vI p2, vI p3, vJ v1, .second, .unset, .unset, .unset, .unset] [iJ 10000, iI 4, iR b4, iR b4])) rfl rfl (hb hby d3_45)
  have V19 : Arv Z h19 b4 k4 .long (19 : Int32) [(.long (1 : Int64)), (.long (10 : Int64)), (.long (100 : Int64)), (.long (1000 : Int64)), (.long (10000 : Int64)), (.long (0 : Int64)), (.long (0 : Int64)), (.long (0 : Int64)), (.long (0 : Int64)), (.long (0 : Int64)), (.long (0 : Int64)), (.long (0 : Int64)), (.long (0 : Int64)), (.long (0 : Int64)), (.long (0 : Int64)), (.long (0 : Int64)), (.long (0 : Int64)), (.long (0 : Int64)), (.long (0 : Int64))] (.long (0 : Int64)) := Arv.set Ar17 q17 S17 M17 H17 G17 rfl W19 4 rfl (Nat.le_of_ble_eq_true rfl)
  have K19 : Keep h0 h19 [] := K16.wr W19 (Or.inr sz_b4)
  have N19 := Fr.snoc X19 N16 g_b4
  obtain ⟨cl20, Ar20, q20, S20, M20, H20, G20⟩ := V19
  have hin21 : ¬ ((5 : Int32) < 0 ∨ cl20.slots.size ≤ ((5 : Int32)).toNatClampNeg) := inb_of S20 ⟨by decide, by decide⟩
  obtain ⟨T22, h22, X22, e22, W22, st22⟩ := stJ X19 hx hZ e19 Ar20 (j := (5 : Int32)) hin21 (g := (mkF m 51 #[vI p1, vI p2, vI p3, vJ v1, .second, .unset, .unset, .unset, .unset] [iJ 100000, iI 5, iR b4, iR b4])) rfl rfl (hb hby d3_51)
  have V22 : Arv Z h22 b4 k4 .long (19 : Int32) [(.long (1 : Int64)), (.long (10 : Int64)), (.long (100 : Int64)), (.long (1000 : Int64)), (.long (10000 : Int64)), (.long (100000 : Int64)), (.long (0 : Int64)), (.long (0 : Int64)), (.long (0 : Int64)), (.long (0 : Int64)), (.long (0 : Int64)), (.long (0 : Int64)), (.long (0 : Int64)), (.long (0 : Int64)), (.long (0 : Int64)), (.long (0 : Int64)), (.long (0 : Int64)), (.long (0 : Int64)), (.long (0 : Int64))] (.long (0 : Int64)) := Arv.set Ar20 q20 S20 M20 H20 G20 rfl W22 5 rfl (Nat.le_of_ble_eq_true rfl)
  have K22 : Keep h0 h22 [] := K19.wr W22 (Or.inr sz_b4)
  have N22 := Fr.snoc X22 N19 g_b4
  obtain ⟨cl23, Ar23, q23, S23, M23, H23, G23⟩ := V22
  have hin24 : ¬ ((6 : Int32) < 0 ∨ cl23.slots.size ≤ ((6 : Int32)).toNatClampNeg) := inb_of S23 ⟨by decide, by decide⟩
  obtain ⟨T25, h25, X25, e25, W25, st25⟩ := stJ X22 hx hZ e22 Ar23 (j := (6 : Int32)) hin24 (g := (mkF m 58 #[vI p1, vI p2, vI p3, vJ v1, .second, .unset, .unset, .unset, .unset] [iJ 1000000, iI 6, iR b4, iR b4])) rfl rfl (hb hby d3_58)
  have V25 : Arv Z h25 b4 k4 .long (19 : Int32) [(.long (1 : Int64)), (.long (10 : Int64)), (.long (100 : Int64)), (.long (1000 : Int64)), (.long (10000 : Int64)), (.long (100000 : Int64)), (.long (1000000 : Int64)), (.long (0 : Int64)), (.long (0 : Int64)), (.long (0 : Int64)), (.long (0 : Int64)), (.long (0 : Int64)), (.long (0 : Int64)), (.long (0 : Int64)), (.long (0 : Int64)), (.long (0 : Int64)), (.long (0 : Int64)), (.long (0 : Int64)), (.long (0 : Int64))] (.long (0 : Int64)) := Arv.set Ar23 q23 S23 M23 H23 G23 rfl W25 6 rfl (Nat.le_of_ble_eq_true rfl)
  have K25 : Keep h0 h25 [] := K22.wr W25 (Or.inr sz_b4)
  have N25 := Fr.snoc X25 N22 g_b4
  obtain ⟨cl26, Ar26, q26, S26, M26, H26, G26⟩ := V25
  have hin27 : ¬ ((7 : Int32) < 0 ∨ cl26.slots.size ≤ ((7 : Int32)).toNatClampNeg) := inb_of S26 ⟨by decide, by decide⟩
  obtain ⟨T28, h28, X28, e28, W28, st28⟩ := stJ X25 hx hZ e25 Ar26 (j := (7 : Int32)) hin27 (g := (mkF m 65 #[vI p1, vI p2, vI p3, vJ v1, .second, .unset, .unset, .unset, .unset] [iJ 10000000, iI 7, iR b4, iR b4])) rfl rfl (hb hby d3_65)
  have V28 : Arv Z h28 b4 k4 .long (19 : Int32) [(.long (1 : Int64)), (.long (10 : Int64)), (.long (100 : Int64)), (.long (1000 : Int64)), (.long (10000 : Int64)), (.long (100000 : Int64)), (.long (1000000 : Int64)), (.long (10000000 : Int64)), (.long (0 : Int64)), (.long (0 : Int64)), (.long (0 : Int64)), (.long (0 : Int64)), (.long (0 : Int64)), (.long (0 : Int64)), (.long (0 : Int64)), (.long (0 : Int64)), (.long (0 : Int64)), (.long (0 : Int64)), (.long (0 : Int64))] (.long (0 : Int64)) := Arv.set Ar26 q26 S26 M26 H26 G26 rfl W28 7 rfl (Nat.le_of_ble_eq_true rfl)
  have K28 : Keep h0 h28 [] := K25.wr W28 (Or.inr sz_b4)
  have N28 := Fr.snoc X28 N25 g_b4
  obtain ⟨cl29, Ar29, q29, S29, M29, H29, G29⟩ := V28
  have hin30 : ¬ ((8 : Int32) < 0 ∨ cl29.slots.size ≤ ((8 : Int32)).toNatClampNeg) := inb_of S29 ⟨by decide, by decide⟩
  obtain ⟨T31, h31, X31, e31, W31, st31⟩ := stJ X28 hx hZ e28 Ar29 (j := (8 : Int32)) hin30 (g := (mkF m 72 #[vI p1, vI p2, vI p3, vJ v1, .second, .unset, .unset, .unset, .unset] [iJ 100000000, iI 8, iR b4, iR b4])) rfl rfl (hb hby d3_72)
  have V31 : Arv Z h31 b4 k4 .long (19 : Int32) [(.long (1 : Int64)), (.long (10 : Int64)), (.long (100 : Int64)), (.long (1000 : Int64)), (.long (10000 : Int64)), (.long (100000 : Int64)), (.long (1000000 : Int64)), (.long (10000000 : Int64)), (.long (100000000 : Int64)), (.long (0 : Int64)), (.long (0 : Int64)), (.long (0 : Int64)), (.long (0 : Int64)), (.long (0 : Int64)), (.long (0 : Int64)), (.long (0 : Int64)), (.long (0 : Int64)), (.long (0 : Int64)), (.long (0 : Int64))] (.long (0 : Int64)) := Arv.set Ar29 q29 S29 M29 H29 G29 rfl W31 8 rfl (Nat.le_of_ble_eq_true rfl)
  have K31 : Keep h0 h31 [] := K28.wr W31 (Or.inr sz_b4)
  have N31 := Fr.snoc X31 N28 g_b4
  obtain ⟨cl32, Ar32, q32, S32, M32, H32, G32⟩ := V31
  have hin33 : ¬ ((9 : Int32) < 0 ∨ cl32.slots.size ≤ ((9 : Int32)).toNatClampNeg) := inb_of S32 ⟨by decide, by decide⟩
  obtain ⟨T34, h34, X34, e34, W34, st34⟩ := stJ X31 hx hZ e31 Ar32 (j := (9 : Int32)) hin33 (g := (mkF m 79 #[vI p1, vI p2, vI p3, vJ v1, .second, .unset, .unset, .unset, .unset] [iJ 1000000000, iI 9, iR b4, iR b4])) rfl rfl (hb hby d3_79)
  have V34 : Arv Z h34 b4 k4 .long (19 : Int32) [(.long (1 : Int64)), (.long (10 : Int64)), (.long (100 : Int64)), (.long (1000 : Int64)), (.long (10000 : Int64)), (.long (100000 : Int64)), (.long (1000000 : Int64)), (.long (10000000 : Int64)), (.long (100000000 : Int64)), (.long (1000000000 : Int64)), (.long (0 : Int64)), (.long (0 : Int64)), (.long (0 : Int64)), (.long (0 : Int64)), (.long (0 : Int64)), (.long (0 : Int64)), (.long (0 : Int64)), (.long (0 : Int64)), (.long (0 : Int64))] (.long (0 : Int64)) := Arv.set Ar32 q32 S32 M32 H32 G32 rfl W34 9 rfl (Nat.le_of_ble_eq_true rfl)
  have K34 : Keep h0 h34 [] := K31.wr W34 (Or.inr sz_b4)
  have N34 := Fr.snoc X34 N31 g_b4
  obtain ⟨cl35, Ar35, q35, S35, M35, H35, G35⟩ := V34
  have hin36 : ¬ ((10 : Int32) < 0 ∨ cl35.slots.size ≤ ((10 : Int32)).toNatClampNeg) := inb_of S35 ⟨by decide, by decide⟩
  obtain ⟨T37, h37, X37, e37, W37, st37⟩ := stJ X34 hx hZ e34 Ar35 (j := (10 : Int32)) hin36 (g := (mkF m 86 #[vI p1, vI p2, vI p3, vJ v1, .second, .unset, .unset, .unset, .unset] [iJ 10000000000, iI 10, iR b4, iR b4])) rfl rfl (hb hby d3_86)
  have V37 : Arv Z h37 b4 k4 .long (19 : Int32) [(.long (1 : Int64)), (.long (10 : Int64)), (.long (100 : Int64)), (.long (1000 : Int64)), (.long (10000 : Int64)), (.long (100000 : Int64)), (.long (1000000 : Int64)), (.long (10000000 : Int64)), (.long (100000000 : Int64)), (.long (1000000000 : Int64)), (.long (10000000000 : Int64)), (.long (0 : Int64)), (.long (0 : Int64)), (.long (0 : Int64)), (.long (0 : Int64)), (.long (0 : Int64)), (.long (0 : Int64)), (.long (0 : Int64)), (.long (0 : Int64))] (.long (0 : Int64)) := Arv.set Ar35 q35 S35 M35 H35 G35 rfl W37 10 rfl (Nat.le_of_ble_eq_true rfl)
  have K37 : Keep h0 h37 [] := K34.wr W37 (Or.inr sz_b4)
  have N37 := Fr.snoc X37 N34 g_b4
  obtain ⟨cl38, Ar38, q38, S38, M38, H38, G38⟩ := V37
  have hin39 : ¬ ((11 : Int32) < 0 ∨ cl38.slots.size ≤ ((11 : Int32)).toNatClampNeg) := inb_of S38 ⟨by decide, by decide⟩
  obtain ⟨T40, h40, X40, e40, W40, st40⟩ := stJ X37 hx hZ e37 Ar38 (j := (11 : Int32)) hin39 (g := (mkF m 93 #[vI p1, vI p2, vI p3, vJ v1, .second, .unset, .unset, .unset, .unset] [iJ 100000000000, iI 11, iR b4, iR b4])) rfl rfl (hb hby d3_93)
  have V40 : Arv Z h40 b4 k4 .long (19 : Int32) [(.long (1 : Int64)), (.long (10 : Int64)), (.long (100 : Int64)), (.long (1000 : Int64)), (.long (10000 : Int64)), (.long (100000 : Int64)), (.long (1000000 : Int64)), (.long (10000000 : Int64)), (.long (100000000 : Int64)), (.long (1000000000 : Int64)), (.long (10000000000 : Int64)), (.long (100000000000 : Int64)), (.long (0 : Int64)), (.long (0 : Int64)), (.long (0 : Int64)), (.long (0 : Int64)), (.long (0 : Int64)), (.long (0 : Int64)), (.long (0 : Int64))] (.long (0 : Int64)) := Arv.set Ar38 q38 S38 M38 H38 G38 rfl W40 11 rfl (Nat.le_of_ble_eq_true rfl)
  have K40 : Keep h0 h40 [] := K37.wr W40 (Or.inr sz_b4)
  have N40 := Fr.snoc X40 N37 g_b4
  obtain ⟨cl41, Ar41, q41, S41, M41, H41, G41⟩ := V40
  have hin42 : ¬ ((12 : Int32) < 0 ∨ cl41.slots.size ≤ ((12 : Int32)).toNatClampNeg) := inb_of S41 ⟨by decide, by decide⟩
  obtain ⟨T43, h43, X43, e43, W43, st43⟩ := stJ X40 hx hZ e40 Ar41 (j := (12 : Int32)) hin42 (g := (mkF m 100 #[vI p1, vI p2, vI p3, vJ v1, .second, .unset, .unset, .unset, .unset] [iJ 1000000000000, iI 12, iR b4, iR b4])) rfl rfl (hb hby d3_100)
  have V43 : Arv Z h43 b4 k4 .long (19 : Int32) [(.long (1 : Int64)), (.long (10 : Int64)), (.long (100 : Int64)), (.long (1000 : Int64)), (.long (10000 : Int64)), (.long (100000 : Int64)), (.long (1000000 : Int64)), (.long (10000000 : Int64)), (.long (100000000 : Int64)), (.long (1000000000 : Int64)), (.long (10000000000 : Int64)), (.long (100000000000 : Int64)), (.long (1000000000000 : Int64)), (.long (0 : Int64)), (.long (0 : Int64)), (.long (0 : Int64)), (.long (0 : Int64)), (.long (0 : Int64)), (.long (0 : Int64))] (.long (0 : Int64)) := Arv.set Ar41 q41 S41 M41 H41 G41 rfl W43 12 rfl (Nat.le_of_ble_eq_true rfl)
  have K43 : Keep h0 h43 [] := K40.wr W43 (Or.inr sz_b4)
  have N43 := Fr.snoc X43 N40 g_b4
  obtain ⟨cl44, Ar44, q44, S44, M44, H44, G44⟩ := V43
  have hin45 : ¬ ((13 : Int32) < 0 ∨ cl44.slots.size ≤ ((13 : Int32)).toNatClampNeg) := inb_of S44 ⟨by decide, by decide⟩
  obtain ⟨T46, h46, X46, e46, W46, st46⟩ := stJ X43 hx hZ e43 Ar44 (j := (13 : Int32)) hin45 (g := (mkF m 107 #[vI p1, vI p2, vI p3, vJ v1, .second, .unset, .unset, .unset, .unset] [iJ 10000000000000, iI 13, iR b4, iR b4])) rfl rfl (hb hby d3_107)
  have V46 : Arv Z h46 b4 k4 .long (19 : Int32) [(.long (1 : Int64)), (.long (10 : Int64)), (.long (100 : Int64)), (.long (1000 : Int64)), (.long (10000 : Int64)), (.long (100000 : Int64)), (.long (1000000 : Int64)), (.long (10000000 : Int64)), (.long (100000000 : Int64)), (.long (1000000000 : Int64)), (.long (10000000000 : Int64)), (.long (100000000000 : Int64)), (.long (1000000000000 : Int64)), (.long (10000000000000 : Int64)), (.long (0 : Int64)), (.long (0 : Int64)), (.long (0 : Int64)), (.long (0 : Int64)), (.long (0 : Int64))] (.long (0 : Int64)) := Arv.set Ar44 q44 S44 M44 H44 G44 rfl W46 13 rfl (Nat.le_of_ble_eq_true rfl)
  have K46 : Keep h0 h46 [] := K43.wr W46 (Or.inr sz_b4)
  have N46 := Fr.snoc X46 N43 g_b4
  obtain ⟨cl47, Ar47, q47, S47, M47, H47, G47⟩ := V46
  have hin48 : ¬ ((14 : Int32) < 0 ∨ cl47.slots.size ≤ ((14 : Int32)).toNatClampNeg) := inb_of S47 ⟨by decide, by decide⟩
  obtain ⟨T49, h49, X49, e49, W49, st49⟩ := stJ X46 hx hZ e46 Ar47 (j := (14 : Int32)) hin48 (g := (mkF m 114 #[vI p1, vI p2, vI p3, vJ v1, .second, .unset, .unset, .unset, .unset] [iJ 100000000000000, iI 14, iR b4, iR b4])) rfl rfl (hb hby d3_114)
  have V49 : Arv Z h49 b4 k4 .long (19 : Int32) [(.long (1 : Int64)), (.long (10 : Int64)), (.long (100 : Int64)), (.long (1000 : Int64)), (.long (10000 : Int64)), (.long (100000 : Int64)), (.long (1000000 : Int64)), (.long (10000000 : Int64)), (.long (100000000 : Int64)), (.long (1000000000 : Int64)), (.long (10000000000 : Int64)), (.long (100000000000 : Int64)), (.long (1000000000000 : Int64)), (.long (10000000000000 : Int64)), (.long (100000000000000 : Int64)), (.long (0 : Int64)), (.long (0 : Int64)), (.long (0 : Int64)), (.long (0 : Int64))] (.long (0 : Int64)) := Arv.set Ar47 q47 S47 M47 H47 G47 rfl W49 14 rfl (Nat.le_of_ble_eq_true rfl)
  have K49 : Keep h0 h49 [] := K46.wr W49 (Or.inr sz_b4)
  have N49 := Fr.snoc X49 N46 g_b4
  obtain ⟨cl50, Ar50, q50, S50, M50, H50, G50⟩ := V49
  have hin51 : ¬ ((15 : Int32) < 0 ∨ cl50.slots.size ≤ ((15 : Int32)).toNatClampNeg) := inb_of S50 ⟨by decide, by decide⟩
  obtain ⟨T52, h52, X52, e52, W52, st52⟩ := stJ X49 hx hZ e49 Ar50 (j := (15 : Int32)) hin51 (g := (mkF m 121 #[vI p1, vI p2, vI p3, vJ v1, .second, .unset, .unset, .unset, .unset] [iJ 1000000000000000, iI 15, iR b4, iR b4])) rfl rfl (hb hby d3_121)
  have V52 : Arv Z h52 b4 k4 .long (19 : Int32) [(.long (1 : Int64)), (.long (10 : Int64)), (.long (100 : Int64)), (.long (1000 : Int64)), (.long (10000 : Int64)), (.long (100000 : Int64)), (.long (1000000 : Int64)), (.long (10000000 : Int64)), (.long (100000000 : Int64)), (.long (1000000000 : Int64)), (.long (10000000000 : Int64)), (.long (100000000000 : Int64)), (.long (1000000000000 : Int64)), (.long (10000000000000 : Int64)), (.long (100000000000000 : Int64)), (.long (1000000000000000 : Int64)), (.long (0 : Int64)), (.long (0 : Int64)), (.long (0 : Int64))] (.long (0 : Int64)) := Arv.set Ar50 q50 S50 M50 H50 G50 rfl W52 15 rfl (Nat.le_of_ble_eq_true rfl)
  have K52 : Keep h0 h52 [] := K49.wr W52 (Or.inr sz_b4)
  have N52 := Fr.snoc X52 N49 g_b4
  obtain ⟨cl53, Ar53, q53, S53, M53, H53, G53⟩ := V52
  have hin54 : ¬ ((16 : Int32) < 0 ∨ cl53.slots.size ≤ ((16 : Int32)).toNatClampNeg) := inb_of S53 ⟨by decide, by decide⟩
  obtain ⟨T55, h55, X55, e55, W55, st55⟩ := stJ X52 hx hZ e52 Ar53 (j := (16 : Int32)) hin54 (g := (mkF m 128 #[vI p1, vI p2, vI p3, vJ v1, .second, .unset, .unset, .unset, .unset] [iJ 10000000000000000, iI 16, iR b4, iR b4])) rfl rfl (hb hby d3_128)
  have V55 : Arv Z h55 b4 k4 .long (19 : Int32) [(.long (1 : Int64)), (.long (10 : Int64)), (.long (100 : Int64)), (.long (1000 : Int64)), (.long (10000 : Int64)), (.long (100000 : Int64)), (.long (1000000 : Int64)), (.long (10000000 : Int64)), (.long (100000000 : Int64)), (.long (1000000000 : Int64)), (.long (10000000000 : Int64)), (.long (100000000000 : Int64)), (.long (1000000000000 : Int64)), (.long (10000000000000 : Int64)), (.long (100000000000000 : Int64)), (.long (1000000000000000 : Int64)), (.long (10000000000000000 : Int64)), (.long (0 : Int64)), (.long (0 : Int64))] (.long (0 : Int64)) := Arv.set Ar53 q53 S53 M53 H53 G53 rfl W55 16 rfl (Nat.le_of_ble_eq_true rfl)
  have K55 : Keep h0 h55 [] := K52.wr W55 (Or.inr sz_b4)
  have N55 := Fr.snoc X55 N52 g_b4
  obtain ⟨cl56, Ar56, q56, S56, M56, H56, G56⟩ := V55
  have hin57 : ¬ ((17 : Int32) < 0 ∨ cl56.slots.size ≤ ((17 : Int32)).toNatClampNeg) := inb_of S56 ⟨by decide, by decide⟩
  obtain ⟨T58, h58, X58, e58, W58, st58⟩ := stJ X55 hx hZ e55 Ar56 (j := (17 : Int32)) hin57 (g := (mkF m 135 #[vI p1, vI p2, vI p3, vJ v1, .second, .unset, .unset, .unset, .unset] [iJ 100000000000000000, iI 17, iR b4, iR b4])) rfl rfl (hb hby d3_135)
  have V58 : Arv Z h58 b4 k4 .long (19 : Int32) [(.long (1 : Int64)), (.long (10 : Int64)), (.long (100 : Int64)), (.long (1000 : Int64)), (.long (10000 : Int64)), (.long (100000 : Int64)), (.long (1000000 : Int64)), (.long (10000000 : Int64)), (.long (100000000 : Int64)), (.long (1000000000 : Int64)), (.long (10000000000 : Int64)), (.long (100000000000 : Int64)), (.long (1000000000000 : Int64)), (.long (10000000000000 : Int64)), (.long (100000000000000 : Int64)), (.long (1000000000000000 : Int64)), (.long (10000000000000000 : Int64)), (.long (100000000000000000 : Int64)), (.long (0 : Int64))] (.long (0 : Int64)) := Arv.set Ar56 q56 S56 M56 H56 G56 rfl W58 17 rfl (Nat.le_of_ble_eq_true rfl)
  have K58 : Keep h0 h58 [] := K55.wr W58 (Or.inr sz_b4)
  have N58 := Fr.snoc X58 N55 g_b4
  obtain ⟨cl59, Ar59, q59, S59, M59, H59, G59⟩ := V58
  have hin60 : ¬ ((18 : Int32) < 0 ∨ cl59.slots.size ≤ ((18 : Int32)).toNatClampNeg) := inb_of S59 ⟨by decide, by decide⟩
  obtain ⟨T61, h61, X61, e61, W61, st61⟩ := stJ X58 hx hZ e58 Ar59 (j := (18 : Int32)) hin60 (g := (mkF m 142 #[vI p1, vI p2, vI p3, vJ v1, .second, .unset, .unset, .unset, .unset] [iJ 1000000000000000000, iI 18, iR b4, iR b4])) rfl rfl (hb hby d3_142)
  have V61 : Arv Z h61 b4 k4 .long (19 : Int32) [(.long (1 : Int64)), (.long (10 : Int64)), (.long (100 : Int64)), (.long (1000 : Int64)), (.long (10000 : Int64)), (.long (100000 : Int64)), (.long (1000000 : Int64)), (.long (10000000 : Int64)), (.long (100000000 : Int64)), (.long (1000000000 : Int64)), (.long (10000000000 : Int64)), (.long (100000000000 : Int64)), (.long (1000000000000 : Int64)), (.long (10000000000000 : Int64)), (.long (100000000000000 : Int64)), (.long (1000000000000000 : Int64)), (.long (10000000000000000 : Int64)), (.long (100000000000000000 : Int64)), (.long (1000000000000000000 : Int64))] (.long (0 : Int64)) := Arv.set Ar59 q59 S59 M59 H59 G59 rfl W61 18 rfl (Nat.le_of_ble_eq_true rfl)
  have K61 : Keep h0 h61 [] := K58.wr W61 (Or.inr sz_b4)
  have N61 := Fr.snoc X61 N58 g_b4
  have pre63 : ∀ t, Steps p.tables e below (T61.setTop (mkF m 146 #[vI p1, vI p2, vI p3, vJ v1, .second, vR b4, .unset, .unset, .unset] [iI p1])) t → Steps p.tables e below (s₁.setTop (entryFrame m #[(.int p1), (.int p2), (.int p3)] 9)) t := by
    intro t kt
    refine pre0 t ?_
    show Steps _ _ _ (s₁.setTop (mkF m 0 #[vI p1, vI p2, vI p3, .unset, .unset, .unset, .unset, .unset, .unset] [])) _
    refine XS.iloadN X0.here hx rfl (hb hby d3_0) rfl ?_
    show Steps _ _ _ (s₁.setTop (mkF m 1 #[vI p1, vI p2, vI p3, .unset, .unset, .unset, .unset, .unset, .unset] [iI p2])) _
    refine st2 _ ?_
    show Steps _ _ _ (T2.setTop (mkF m 13 #[vI p1, vI p2, vI p3, .unset, .unset, .unset, .unset, .unset, .unset] [iJ v1])) _
    refine XS.lstoreN X2.here hx rfl (hb hby d3_13) rfl (l' := #[vI p1, vI p2, vI p3, vJ v1, .second, .unset, .unset, .unset, .unset]) rfl ?_
    show Steps _ _ _ (T2.setTop (mkF m 14 #[vI p1, vI p2, vI p3, vJ v1, .second, .unset, .unset, .unset, .unset] [])) _
    refine XS.bipush X2.here hx rfl (hb hby d3_14) ?_
    show Steps _ _ _ (T2.setTop (mkF m 16 #[vI p1, vI p2, vI p3, vJ v1, .second, .unset, .unset, .unset, .unset] [iI 19])) _
    refine st4 _ ?_
    show Steps _ _ _ (T4.setTop (mkF m 18 #[vI p1, vI p2, vI p3, vJ v1, .second, .unset, .unset, .unset, .unset] [iR b4])) _
    refine XS.dup X4.here hx rfl (hb hby d3_18) rfl rfl ?_
    show Steps _ _ _ (T4.setTop (mkF m 19 #[vI p1, vI p2, vI p3, vJ v1, .second, .unset, .unset, .unset, .unset] [iR b4, iR b4])) _
    refine XS.iconst X4.here hx rfl (hb hby d3_19) ?_
    show Steps _ _ _ (T4.setTop (mkF m 20 #[vI p1, vI p2, vI p3, vJ v1, .second, .unset, .unset, .unset, .unset] [iI 0, iR b4, iR b4])) _
    refine XS.lconst X4.here hx rfl (hb hby d3_20) ?_
    show Steps _ _ _ (T4.setTop (mkF m 21 #[vI p1, vI p2, vI p3, vJ v1, .second, .unset, .unset, .unset, .unset] [iJ 1, iI 0, iR b4, iR b4])) _
    refine st7 _ ?_
    show Steps _ _ _ (T7.setTop (mkF m 22 #[vI p1, vI p2, vI p3, vJ v1, .second, .unset, .unset, .unset, .unset] [iR b4])) _
    refine XS.dup X7.here hx rfl (hb hby d3_22) rfl rfl ?_
    show Steps _ _ _ (T7.setTop (mkF m 23 #[vI p1, vI p2, vI p3, vJ v1, .second, .unset, .unset, .unset, .unset] [iR b4, iR b4])) _
    refine XS.iconst X7.here hx rfl (hb hby d3_23) ?_
    show Steps _ _ _ (T7.setTop (mkF m 24 #[vI p1, vI p2, vI p3, vJ v1, .second, .unset, .unset, .unset, .unset] [iI 1, iR b4, iR b4])) _
    refine X7.ldc2Long hx hown (mvT hZ (hw _ (List.mem_of_getElem? (i := 18) rfl))) (g := (mkF m 24 #[vI p1, vI p2, vI p3, vJ v1, .second, .unset, .unset, .unset, .unset] [iI 1, iR b4, iR b4])) rfl (hb hby d3_24) _ ?_
    show Steps _ _ _ (T7.setTop (mkF m 27 #[vI p1, vI p2, vI p3, vJ v1, .second, .unset, .unset, .unset, .unset] [iJ 10, iI 1, iR b4, iR b4])) _
    refine st10 _ ?_
    show Steps _ _ _ (T10.setTop (mkF m 28 #[vI p1, vI p2, vI p3, vJ v1, .second, .unset, .unset, .unset, .unset] [iR b4])) _
    refine XS.dup X10.here hx rfl (hb hby d3_28) rfl rfl ?_
    show Steps _ _ _ (T10.setTop (mkF m 29 #[vI p1, vI p2, vI p3, vJ v1, .second, .unset, .unset, .unset, .unset] [iR b4, iR b4])) _
    refine XS.iconst X10.here hx rfl (hb hby d3_29) ?_
    show Steps _ _ _ (T10.setTop (mkF m 30 #[vI p1, vI p2, vI p3, vJ v1, .second, .unset, .unset, .unset, .unset] [iI 2, iR b4, iR b4])) _
    refine X10.ldc2Long hx hown (mvT hZ (hw _ (List.mem_of_getElem? (i := 19) rfl))) (g := (mkF m 30 #[vI p1, vI p2, vI p3, vJ v1, .second, .unset, .unset, .unset, .unset] [iI 2, iR b4, iR b4])) rfl (hb hby d3_30) _ ?_
    show Steps _ _ _ (T10.setTop (mkF m 33 #[vI p1, vI p2, vI p3, vJ v1, .second, .unset, .unset, .unset, .unset] [iJ 100, iI 2, iR b4, iR b4])) _
    refine st13 _ ?_
    show Steps _ _ _ (T13.setTop (mkF m 34 #[vI p1, vI p2, vI p3, vJ v1, .second, .unset, .unset, .unset, .unset] [iR b4])) _
    refine XS.dup X13.here hx rfl (hb hby d3_34) rfl rfl ?_
    show Steps _ _ _ (T13.setTop (mkF m 35 #[vI p1, vI p2, vI p3, vJ v1, .second, .unset, .unset, .unset, .unset] [iR b4, iR b4])) _
    refine XS.iconst X13.here hx rfl (hb hby d3_35) ?_
    show Steps _ _ _ (T13.setTop (mkF m 36 #[vI p1, vI p2, vI p3, vJ v1, .second, .unset, .unset, .unset, .unset] [iI 3, iR b4, iR b4])) _
    refine X13.ldc2Long hx hown (mvT hZ (hw _ (List.mem_of_getElem? (i := 20) rfl))) (g := (mkF m 36 #[vI p1, vI p2, vI p3, vJ v1, .second, .unset, .unset, .unset, .unset] [iI 3, iR b4, iR b4])) rfl (hb hby d3_36) _ ?_
    show Steps _ _ _ (T13.setTop (mkF m 39 #[vI p1, vI p2, vI p3, vJ v1, .second, .unset, .unset, .unset, .unset] [iJ 1000, iI 3, iR b4, iR b4])) _
    refine st16 _ ?_
    show Steps _ _ _ (T16.setTop (mkF m 40 #[vI p1, vI p2, vI p3, vJ v1, .second, .unset, .unset, .unset, .unset] [iR b4])) _
    refine XS.dup X16.here hx rfl (hb hby d3_40) rfl rfl ?_
    show Steps _ _ _ (T16.setTop (mkF m 41 #[vI p1, vI p2, vI p3, vJ v1, .second, .unset, .unset, .unset, .unset] [iR b4, iR b4])) _
    refine XS.iconst X16.here hx rfl (hb hby d3_41) ?_
    show Steps _ _ _ (T16.setTop (mkF m 42 #[vI p1, vI p2, vI p3, vJ v1, .second, .unset, .unset, .unset, .unset] [iI 4, iR b4, iR b4])) _
    refine X16.ldc2Long hx hown (mvT hZ (hw _ (List.mem_of_getElem? (i := 21) rfl))) (g := (mkF m 42 #[vI p1, vI p2, vI p3, vJ v1, .second, .unset, .unset, .unset, .unset] [iI 4, iR b4, iR b4])) rfl (hb hby d3_42) _ ?_
    show Steps _ _ _ (T16.setTop (mkF m 45 #[vI p1, vI p2, vI p3, vJ v1, .second, .unset, .unset, .unset, .unset] [iJ 10000, iI 4, iR b4, iR b4])) _
    refine st19 _ ?_
    show Steps _ _ _ (T19.setTop (mkF m 46 #[vI p1, vI p2, vI p3, vJ v1, .second, .unset, .unset, .unset, .unset] [iR b4])) _
    refine XS.dup X19.here hx rfl (hb hby d3_46) rfl rfl ?_
    show Steps _ _ _ (T19.setTop (mkF m 47 #[vI p1, vI p2, vI p3, vJ v1, .second, .unset, .unset, .unset, .unset] [iR b4, iR b4])) _
    refine XS.iconst X19.here hx rfl (hb hby d3_47) ?_
    show Steps _ _ _ (T19.setTop (mkF m 48 #[vI p1, vI p2, vI p3, vJ v1, .second, .unset, .unset, .unset, .unset] [iI 5, iR b4, iR b4])) _
    refine X19.ldc2Long hx hown (mvT hZ (hw _ (List.mem_of_getElem? (i := 22) rfl))) (g := (mkF m 48 #[vI p1, vI p2, vI p3, vJ v1, .second, .unset, .unset, .unset, .unset] [iI 5, iR b4, iR b4])) rfl (hb hby d3_48) _ ?_
    show Steps _ _ _ (T19.setTop (mkF m 51 #[vI p1, vI p2, vI p3, vJ v1, .second, .unset, .unset, .unset, .unset] [iJ 100000, iI 5, iR b4, iR b4])) _
    refine st22 _ ?_
    show Steps _ _ _ (T22.setTop (mkF m 52 #[vI p1, vI p2, vI p3, vJ v1, .second, .unset, .unset, .unset, .unset] [iR b4])) _
    refine XS.dup X22.here hx rfl (hb hby d3_52) rfl rfl ?_
    show Steps _ _ _ (T22.setTop (mkF m 53 #[vI p1, vI p2, vI p3, vJ v1, .second, .unset, .unset, .unset, .unset] [iR b4, iR b4])) _
    refine XS.bipush X22.here hx rfl (hb hby d3_53) ?_
    show Steps _ _ _ (T22.setTop (mkF m 55 #[vI p1, vI p2, vI p3, vJ v1, .second, .unset, .unset, .unset, .unset] [iI 6, iR b4, iR b4])) _
    refine X22.ldc2Long hx hown (mvT hZ (hw _ (List.mem_of_getElem? (i := 23) rfl))) (g := (mkF m 55 #[vI p1, vI p2, vI p3, vJ v1, .second, .unset, .unset, .unset, .unset] [iI 6, iR b4, iR b4])) rfl (hb hby d3_55) _ ?_
    show Steps _ _ _ (T22.setTop (mkF m 58 #[vI p1, vI p2, vI p3, vJ v1, .second, .unset, .unset, .unset, .unset] [iJ 1000000, iI 6, iR b4, iR b4])) _
    refine st25 _ ?_
    show Steps _ _ _ (T25.setTop (mkF m 59 #[vI p1, vI p2, vI p3, vJ v1, .second, .unset, .unset, .unset, .unset] [iR b4])) _
    refine XS.dup X25.here hx rfl (hb hby d3_59) rfl rfl ?_
    show Steps _ _ _ (T25.setTop (mkF m 60 #[vI p1, vI p2, vI p3, vJ v1, .second, .unset, .unset, .unset, .unset] [iR b4, iR b4])) _
    refine XS.bipush X25.here hx rfl (hb hby d3_60) ?_
    show Steps _ _ _ (T25.setTop (mkF m 62 #[vI p1, vI p2, vI p3, vJ v1, .second, .unset, .unset, .unset, .unset] [iI 7, iR b4, iR b4])) _
    refine X25.ldc2Long hx hown (mvT hZ (hw _ (List.mem_of_getElem? (i := 24) rfl))) (g := (mkF m 62 #[vI p1, vI p2, vI p3, vJ v1, .second, .unset, .unset, .unset, .unset] [iI 7, iR b4, iR b4])) rfl (hb hby d3_62) _ ?_
    show Steps _ _ _ (T25.setTop (mkF m 65 #[vI p1, vI p2, vI p3, vJ v1, .second, .unset, .unset, .unset, .unset] [iJ 10000000, iI 7, iR b4, iR b4])) _
    refine st28 _ ?_
    show Steps _ _ _ (T28.setTop (mkF m 66 #[vI p1, vI p2, vI p3, vJ v1, .second, .unset, .unset, .unset, .unset] [iR b4])) _
    refine XS.dup X28.here hx rfl (hb hby d3_66) rfl rfl ?_
    show Steps _ _ _ (T28.setTop (mkF m 67 #[vI p1, vI p2, vI p3, vJ v1, .second, .unset, .unset, .unset, .unset] [iR b4, iR b4])) _
    refine XS.bipush X28.here hx rfl (hb hby d3_67) ?_
    show Steps _ _ _ (T28.setTop (mkF m 69 #[vI p1, vI p2, vI p3, vJ v1, .second, .unset, .unset, .unset, .unset] [iI 8, iR b4, iR b4])) _
    refine X28.ldc2Long hx hown (mvT hZ (hw _ (List.mem_of_getElem? (i := 25) rfl))) (g := (mkF m 69 #[vI p1, vI p2, vI p3, vJ v1, .second, .unset, .unset, .unset, .unset] [iI 8, iR b4, iR b4])) rfl (hb hby d3_69) _ ?_
    show Steps _ _ _ (T28.setTop (mkF m 72 #[vI p1, vI p2, vI p3, vJ v1, .second, .unset, .unset, .unset, .unset] [iJ 100000000, iI 8, iR b4, iR b4])) _
    refine st31 _ ?_
    show Steps _ _ _ (T31.setTop (mkF m 73 #[vI p1, vI p2, vI p3, vJ v1, .second, .unset, .unset, .unset, .unset] [iR b4])) _
    refine XS.dup X31.here hx rfl (hb hby d3_73) rfl rfl ?_
    show Steps _ _ _ (T31.setTop (mkF m 74 #[vI p1, vI p2, vI p3, vJ v1, .second, .unset, .unset, .unset, .unset] [iR b4, iR b4])) _
    refine XS.bipush X31.here hx rfl (hb hby d3_74) ?_
    show Steps _ _ _ (T31.setTop (mkF m 76 #[vI p1, vI p2, vI p3, vJ v1, .second, .unset, .unset, .unset, .unset] [iI 9, iR b4, iR b4])) _
    refine X31.ldc2Long hx hown (mvT hZ (hw _ (List.mem_of_getElem? (i := 26) rfl))) (g := (mkF m 76 #[vI p1, vI p2, vI p3, vJ v1, .second, .unset, .unset, .unset, .unset] [iI 9, iR b4, iR b4])) rfl (hb hby d3_76) _ ?_
    show Steps _ _ _ (T31.setTop (mkF m 79 #[vI p1, vI p2, vI p3, vJ v1, .second, .unset, .unset, .unset, .unset] [iJ 1000000000, iI 9, iR b4, iR b4])) _
    refine st34 _ ?_
    show Steps _ _ _ (T34.setTop (mkF m 80 #[vI p1, vI p2, vI p3, vJ v1, .second, .unset, .unset, .unset, .unset] [iR b4])) _
    refine XS.dup X34.here hx rfl (hb hby d3_80) rfl rfl ?_
    show Steps _ _ _ (T34.setTop (mkF m 81 #[vI p1, vI p2, vI p3, vJ v1, .second, .unset, .unset, .unset, .unset] [iR b4, iR b4])) _
    refine XS.bipush X34.here hx rfl (hb hby d3_81) ?_
    show Steps _ _ _ (T34.setTop (mkF m 83 #[vI p1, vI p2, vI p3, vJ v1, .second, .unset, .unset, .unset, .unset] [iI 10, iR b4, iR b4])) _
    refine X34.ldc2Long hx hown (mvT hZ (hw _ (List.mem_of_getElem? (i := 27) rfl))) (g := (mkF m 83 #[vI p1, vI p2, vI p3, vJ v1, .second, .unset, .unset, .unset, .unset] [iI 10, iR b4, iR b4])) rfl (hb hby d3_83) _ ?_
    show Steps _ _ _ (T34.setTop (mkF m 86 #[vI p1, vI p2, vI p3, vJ v1, .second, .unset, .unset, .unset, .unset] [iJ 10000000000, iI 10, iR b4, iR b4])) _
    refine st37 _ ?_
    show Steps _ _ _ (T37.setTop (mkF m 87 #[vI p1, vI p2, vI p3, vJ v1, .second, .unset, .unset, .unset, .unset] [iR b4])) _
    refine XS.dup X37.here hx rfl (hb hby d3_87) rfl rfl ?_
    show Steps _ _ _ (T37.setTop (mkF m 88 #[vI p1, vI p2, vI p3, vJ v1, .second, .unset, .unset, .unset, .unset] [iR b4, iR b4])) _
    refine XS.bipush X37.here hx rfl (hb hby d3_88) ?_
    show Steps _ _ _ (T37.setTop (mkF m 90 #[vI p1, vI p2, vI p3, vJ v1, .second, .unset, .unset, .unset, .unset] [iI 11, iR b4, iR b4])) _
    refine X37.ldc2Long hx hown (mvT hZ (hw _ (List.mem_of_getElem? (i := 28) rfl))) (g := (mkF m 90 #[vI p1, vI p2, vI p3, vJ v1, .second, .unset, .unset, .unset, .unset] [iI 11, iR b4, iR b4])) rfl (hb hby d3_90) _ ?_
    show Steps _ _ _ (T37.setTop (mkF m 93 #[vI p1, vI p2, vI p3, vJ v1, .second, .unset, .unset, .unset, .unset] [iJ 100000000000, iI 11, iR b4, iR b4])) _
    refine st40 _ ?_
    show Steps _ _ _ (T40.setTop (mkF m 94 #[vI p1, vI p2, vI p3, vJ v1, .second, .unset, .unset, .unset, .unset] [iR b4])) _
    refine XS.dup X40.here hx rfl (hb hby d3_94) rfl rfl ?_
    show Steps _ _ _ (T40.setTop (mkF m 95 #[vI p1, vI p2, vI p3, vJ v1, .second, .unset, .unset, .unset, .unset] [iR b4, iR b4])) _
    refine XS.bipush X40.here hx rfl (hb hby d3_95) ?_
    show Steps _ _ _ (T40.setTop (mkF m 97 #[vI p1, vI p2, vI p3, vJ v1, .second, .unset, .unset, .unset, .unset] [iI 12, iR b4, iR b4])) _
    refine X40.ldc2Long hx hown (mvT hZ (hw _ (List.mem_of_getElem? (i := 29) rfl))) (g := (mkF m 97 #[vI p1, vI p2, vI p3, vJ v1, .second, .unset, .unset, .unset, .unset] [iI 12, iR b4, iR b4])) rfl (hb hby d3_97) _ ?_
    show Steps _ _ _ (T40.setTop (mkF m 100 #[vI p1, vI p2, vI p3, vJ v1, .second, .unset, .unset, .unset, .unset] [iJ 1000000000000, iI 12, iR b4, iR b4])) _
    refine st43 _ ?_
    show Steps _ _ _ (T43.setTop (mkF m 101 #[vI p1, vI p2, vI p3, vJ v1, .second, .unset, .unset, .unset, .unset] [iR b4])) _
    refine XS.dup X43.here hx rfl (hb hby d3_101) rfl rfl ?_
    show Steps _ _ _ (T43.setTop (mkF m 102 #[vI p1, vI p2, vI p3, vJ v1, .second, .unset, .unset, .unset, .unset] [iR b4, iR b4])) _
    refine XS.bipush X43.here hx rfl (hb hby d3_102) ?_
    show Steps _ _ _ (T43.setTop (mkF m 104 #[vI p1, vI p2, vI p3, vJ v1, .second, .unset, .unset, .unset, .unset] [iI 13, iR b4, iR b4])) _
    refine X43.ldc2Long hx hown (mvT hZ (hw _ (List.mem_of_getElem? (i := 30) rfl))) (g := (mkF m 104 #[vI p1, vI p2, vI p3, vJ v1, .second, .unset, .unset, .unset, .unset] [iI 13, iR b4, iR b4])) rfl (hb hby d3_104) _ ?_
    show Steps _ _ _ (T43.setTop (mkF m 107 #[vI p1, vI p2, vI p3, vJ v1, .second, .unset, .unset, .unset, .unset] [iJ 10000000000000, iI 13, iR b4, iR b4])) _
    refine st46 _ ?_
    show Steps _ _ _ (T46.setTop (mkF m 108 #[vI p1, vI p2, vI p3, vJ v1, .second, .unset, .unset, .unset, .unset] [iR b4])) _
    refine XS.dup X46.here hx rfl (hb hby d3_108) rfl rfl ?_
    show Steps _ _ _ (T46.setTop (mkF m 109 #[vI p1, vI p2, vI p3, vJ v1, .second, .unset, .unset, .unset, .unset] [iR b4, iR b4])) _
    refine XS.bipush X46.here hx rfl (hb hby d3_109) ?_
    show Steps _ _ _ (T46.setTop (mkF m 111 #[vI p1, vI p2, vI p3, vJ v1, .second, .unset, .unset, .unset, .unset] [iI 14, iR b4, iR b4])) _
    refine X46.ldc2Long hx hown (mvT hZ (hw _ (List.mem_of_getElem? (i := 31) rfl))) (g := (mkF m 111 #[vI p1, vI p2, vI p3, vJ v1, .second, .unset, .unset, .unset, .unset] [iI 14, iR b4, iR b4])) rfl (hb hby d3_111) _ ?_
    show Steps _ _ _ (T46.setTop (mkF m 114 #[vI p1, vI p2, vI p3, vJ v1, .second, .unset, .unset, .unset, .unset] [iJ 100000000000000, iI 14, iR b4, iR b4])) _
    refine st49 _ ?_
    show Steps _ _ _ (T49.setTop (mkF m 115 #[vI p1, vI p2, vI p3, vJ v1, .second, .unset, .unset, .unset, .unset] [iR b4])) _
    refine XS.dup X49.here hx rfl (hb hby d3_115) rfl rfl ?_
    show Steps _ _ _ (T49.setTop (mkF m 116 #[vI p1, vI p2, vI p3, vJ v1, .second, .unset, .unset, .unset, .unset] [iR b4, iR b4])) _
    refine XS.bipush X49.here hx rfl (hb hby d3_116) ?_
    show Steps _ _ _ (T49.setTop (mkF m 118 #[vI p1, vI p2, vI p3, vJ v1, .second, .unset, .unset, .unset, .unset] [iI 15, iR b4, iR b4])) _
    refine X49.ldc2Long hx hown (mvT hZ (hw _ (List.mem_of_getElem? (i := 32) rfl))) (g := (mkF m 118 #[vI p1, vI p2, vI p3, vJ v1, .second, .unset, .unset, .unset, .unset] [iI 15, iR b4, iR b4])) rfl (hb hby d3_118) _ ?_
    show Steps _ _ _ (T49.setTop (mkF m 121 #[vI p1, vI p2, vI p3, vJ v1, .second, .unset, .unset, .unset, .unset] [iJ 1000000000000000, iI 15, iR b4, iR b4])) _
    refine st52 _ ?_
    show Steps _ _ _ (T52.setTop (mkF m 122 #[vI p1, vI p2, vI p3, vJ v1, .second, .unset, .unset, .unset, .unset] [iR b4])) _
    refine XS.dup X52.here hx rfl (hb hby d3_122) rfl rfl ?_
    show Steps _ _ _ (T52.setTop (mkF m 123 #[vI p1, vI p2, vI p3, vJ v1, .second, .unset, .unset, .unset, .unset] [iR b4, iR b4])) _
    refine XS.bipush X52.here hx rfl (hb hby d3_123) ?_
    show Steps _ _ _ (T52.setTop (mkF m 125 #[vI p1, vI p2, vI p3, vJ v1, .second, .unset, .unset, .unset, .unset] [iI 16, iR b4, iR b4])) _
    refine X52.ldc2Long hx hown (mvT hZ (hw _ (List.mem_of_getElem? (i := 33) rfl))) (g := (mkF m 125 #[vI p1, vI p2, vI p3, vJ v1, .second, .unset, .unset, .unset, .unset] [iI 16, iR b4, iR b4])) rfl (hb hby d3_125) _ ?_
    show Steps _ _ _ (T52.setTop (mkF m 128 #[vI p1, vI p2, vI p3, vJ v1, .second, .unset, .unset, .unset, .unset] [iJ 10000000000000000, iI 16, iR b4, iR b4])) _
    refine st55 _ ?_
    show Steps _ _ _ (T55.setTop (mkF m 129 #[vI p1, vI p2, vI p3, vJ v1, .second, .unset, .unset, .unset, .unset] [iR b4])) _
    refine XS.dup X55.here hx rfl (hb hby d3_129) rfl rfl ?_
    show Steps _ _ _ (T55.setTop (mkF m 130 #[vI p1, vI p2, vI p3, vJ v1, .second, .unset, .unset, .unset, .unset] [iR b4, iR b4])) _
    refine XS.bipush X55.here hx rfl (hb hby d3_130) ?_
    show Steps _ _ _ (T55.setTop (mkF m 132 #[vI p1, vI p2, vI p3, vJ v1, .second, .unset, .unset, .unset, .unset] [iI 17, iR b4, iR b4])) _
    refine X55.ldc2Long hx hown (mvT hZ (hw _ (List.mem_of_getElem? (i := 34) rfl))) (g := (mkF m 132 #[vI p1, vI p2, vI p3, vJ v1, .second, .unset, .unset, .unset, .unset] [iI 17, iR b4, iR b4])) rfl (hb hby d3_132) _ ?_
    show Steps _ _ _ (T55.setTop (mkF m 135 #[vI p1, vI p2, vI p3, vJ v1, .second, .unset, .unset, .unset, .unset] [iJ 100000000000000000, iI 17, iR b4, iR b4])) _
    refine st58 _ ?_
    show Steps _ _ _ (T58.setTop (mkF m 136 #[vI p1, vI p2, vI p3, vJ v1, .second, .unset, .unset, .unset, .unset] [iR b4])) _
    refine XS.dup X58.here hx rfl (hb hby d3_136) rfl rfl ?_
    show Steps _ _ _ (T58.setTop (mkF m 137 #[vI p1, vI p2, vI p3, vJ v1, .second, .unset, .unset, .unset, .unset] [iR b4, iR b4])) _
    refine XS.bipush X58.here hx rfl (hb hby d3_137) ?_
    show Steps _ _ _ (T58.setTop (mkF m 139 #[vI p1, vI p2, vI p3, vJ v1, .second, .unset, .unset, .unset, .unset] [iI 18, iR b4, iR b4])) _
    refine X58.ldc2Long hx hown (mvT hZ (hw _ (List.mem_of_getElem? (i := 35) rfl))) (g := (mkF m 139 #[vI p1, vI p2, vI p3, vJ v1, .second, .unset, .unset, .unset, .unset] [iI 18, iR b4, iR b4])) rfl (hb hby d3_139) _ ?_
    show Steps _ _ _ (T58.setTop (mkF m 142 #[vI p1, vI p2, vI p3, vJ v1, .second, .unset, .unset, .unset, .unset] [iJ 1000000000000000000, iI 18, iR b4, iR b4])) _
    refine st61 _ ?_
    show Steps _ _ _ (T61.setTop (mkF m 143 #[vI p1, vI p2, vI p3, vJ v1, .second, .unset, .unset, .unset, .unset] [iR b4])) _
    refine XS.astore X61.here hx rfl (hb hby d3_143) rfl rfl (l' := #[vI p1, vI p2, vI p3, vJ v1, .second, vR b4, .unset, .unset, .unset]) rfl ?_
    show Steps _ _ _ (T61.setTop (mkF m 145 #[vI p1, vI p2, vI p3, vJ v1, .second, vR b4, .unset, .unset, .unset] [])) _
    refine XS.iloadN X61.here hx rfl (hb hby d3_145) rfl ?_
    exact kt
  by_cases hc62 : p1 < (0 : Int32)
  · have pre65 : ∀ t, Steps p.tables e below (T61.setTop (mkF m 206 #[vI p1, vI p2, vI p3, vJ v1, .second, vR b4, vI (-p3), .unset, .unset] [iI (-p3)])) t → Steps p.tables e below (s₁.setTop (entryFrame m #[(.int p1), (.int p2), (.int p3)] 9)) t := by
      intro t kt
      refine pre63 t ?_
      show Steps _ _ _ (T61.setTop (mkF m 146 #[vI p1, vI p2, vI p3, vJ v1, .second, vR b4, .unset, .unset, .unset] [iI p1])) _
      refine XS.ifYes X61.here hx rfl (pc0 := 146) (pc' := 200) rfl (hb hby d3_146) rfl ((if0 _ _).trans (tlt hc62).1) (by decide) (by decide) ?_
      show Steps _ _ _ (T61.setTop (mkF m 200 #[vI p1, vI p2, vI p3, vJ v1, .second, vR b4, .unset, .unset, .unset] [])) _
      refine XS.iloadN X61.here hx rfl (hb hby d3_200) rfl ?_
      show Steps _ _ _ (T61.setTop (mkF m 201 #[vI p1, vI p2, vI p3, vJ v1, .second, vR b4, .unset, .unset, .unset] [iI p3])) _
      refine XS.ineg X61.here hx rfl (hb hby d3_201) rfl ?_
      show Steps _ _ _ (T61.setTop (mkF m 202 #[vI p1, vI p2, vI p3, vJ v1, .second, vR b4, .unset, .unset, .unset] [iI (-p3)])) _
      refine XS.istore X61.here hx rfl (hb hby d3_202) rfl (l' := #[vI p1, vI p2, vI p3, vJ v1, .second, vR b4, vI (-p3), .unset, .unset]) rfl ?_
      show Steps _ _ _ (T61.setTop (mkF m 204 #[vI p1, vI p2, vI p3, vJ v1, .second, vR b4, vI (-p3), .unset, .unset] [])) _
      refine XS.iload X61.here hx rfl (hb hby d3_204) rfl ?_
      exact kt
    by_cases hc64 : (-p3) < (0 : Int32)
    · obtain ⟨fs, hr, hrun, hended, hW, hsame⟩ := X61.leave (v := some (.int (0 : Int32))) (fun h => by rw [Bd.returns] at h; cases h)
      refine ⟨_, _, pre65 _ ?_, hrun, hended, _, _, rfl, ?_, ⟨_, rfl⟩, hW, hsame.mono (by decide) (by decide)⟩
      · show Steps _ _ _ (T61.setTop (mkF m 206 #[vI p1, vI p2, vI p3, vJ v1, .second, vR b4, vI (-p3), .unset, .unset] [iI (-p3)])) _
        refine XS.ifYes X61.here hx rfl (pc0 := 206) (pc' := 216) rfl (hb hby d3_206) rfl ((if0 _ _).trans (tlt hc64).1) (by decide) (by decide) ?_
        show Steps _ _ _ (T61.setTop (mkF m 216 #[vI p1, vI p2, vI p3, vJ v1, .second, vR b4, vI (-p3), .unset, .unset] [])) _
        refine XS.iconst X61.here hx rfl (hb hby d3_216) ?_
        show Steps _ _ _ (T61.setTop (mkF m 217 #[vI p1, vI p2, vI p3, vJ v1, .second, vR b4, vI (-p3), .unset, .unset] [iI 0])) _
        exact retN X61 hx (t := .boolean) Bd.returns (by simp) (hb hby d3_217) hr
      · show Q3 Z p1 p2 p3 h0 n0 _ T61.heap _
        rw [e61]
        exact ⟨by subst hv1; first | rfl | (simp only [own_ex, if_pos hc62, if_pos hc64]; done) | (simp only [own_ex, if_pos hc62, if_pos hc64]; rfl) | (simp only [own_ex, if_pos hc62, if_pos hc64, nar] ; first | rfl | (simp; done) | decide), N61⟩
    · have pre67 : ∀ t, Steps p.tables e below (T61.setTop (mkF m 213 #[vI p1, vI p2, vI p3, vJ v1, .second, vR b4, vI (-p3), .unset, .unset] [iI 18, iI (-p3)])) t → Steps p.tables e below (s₁.setTop (entryFrame m #[(.int p1), (.int p2), (.int p3)] 9)) t := by
        intro t kt
        refine pre65 t ?_
        show Steps _ _ _ (T61.setTop (mkF m 206 #[vI p1, vI p2, vI p3, vJ v1, .second, vR b4, vI (-p3), .unset, .unset] [iI (-p3)])) _
        refine XS.ifNo X61.here hx rfl (hb hby d3_206) rfl ((if0 _ _).trans (flt hc64).1) ?_
        show Steps _ _ _ (T61.setTop (mkF m 209 #[vI p1, vI p2, vI p3, vJ v1, .second, vR b4, vI (-p3), .unset, .unset] [])) _
        refine XS.iload X61.here hx rfl (hb hby d3_209) rfl ?_
        show Steps _ _ _ (T61.setTop (mkF m 211 #[vI p1, vI p2, vI p3, vJ v1, .second, vR b4, vI (-p3), .unset, .unset] [iI (-p3)])) _
        refine XS.bipush X61.here hx rfl (hb hby d3_211) ?_
        exact kt
      by_cases hc66 : (18 : Int32) < (-p3)
      · obtain ⟨fs, hr, hrun, hended, hW, hsame⟩ := X61.leave (v := some (.int (0 : Int32))) (fun h => by rw [Bd.returns] at h; cases h)
        refine ⟨_, _, pre67 _ ?_, hrun, hended, _, _, rfl, ?_, ⟨_, rfl⟩, hW, hsame.mono (by decide) (by decide)⟩
        · show Steps _ _ _ (T61.setTop (mkF m 213 #[vI p1, vI p2, vI p3, vJ v1, .second, vR b4, vI (-p3), .unset, .unset] [iI 18, iI (-p3)])) _
          refine XS.icmpNo X61.here hx rfl (hb hby d3_213) rfl (tlt hc66).2.2.2 ?_
          show Steps _ _ _ (T61.setTop (mkF m 216 #[vI p1, vI p2, vI p3, vJ v1, .second, vR b4, vI (-p3), .unset, .unset] [])) _
          refine XS.iconst X61.here hx rfl (hb hby d3_216) ?_
          show Steps _ _ _ (T61.setTop (mkF m 217 #[vI p1, vI p2, vI p3, vJ v1, .second, vR b4, vI (-p3), .unset, .unset] [iI 0])) _
          exact retN X61 hx (t := .boolean) Bd.returns (by simp) (hb hby d3_217) hr
        · show Q3 Z p1 p2 p3 h0 n0 _ T61.heap _
          rw [e61]
          exact ⟨by subst hv1; first | rfl | (simp only [own_ex, if_pos hc62, if_neg hc64, if_pos hc66]; done) | (simp only [own_ex, if_pos hc62, if_neg hc64, if_pos hc66]; rfl) | (simp only [own_ex, if_pos hc62, if_neg hc64, if_pos hc66, nar] ; first | rfl | (simp; done) | decide), N61⟩
      · obtain ⟨cl68, Ar68, q68, S68, M68, H68, G68⟩ := V61
        have hin69 : ¬ ((-p3) < 0 ∨ cl68.slots.size ≤ ((-p3)).toNatClampNeg) := inb_of S68 (by have := rng32 p3; have := rng32 (p3 + 1); have := rng32 (-p3); have := rng32 (-p3 - 1); have := c_iadd p3 1; have := c_ineg p3; have := c_isub (-p3) 1; simp only [Int32.lt_iff_toInt_lt, ← Int32.toInt_inj, own_l0, own_l1, own_l18, own_l19] at *; omega)
        have hat70 : cl68.slots[((-p3)).toNatClampNeg]? = some (.long (own_p (-p3))) := Has.at H68 hin69 (own_pAt _ (by have := rng32 p3; have := rng32 (p3 + 1); have := rng32 (-p3); have := rng32 (-p3 - 1); have := c_iadd p3 1; have := c_ineg p3; have := c_isub (-p3) 1; simp only [Int32.lt_iff_toInt_lt, ← Int32.toInt_inj, own_l0, own_l1, own_l18, own_l19] at *; omega))
        obtain ⟨v71, hv71⟩ : ∃ z : Int32, z = (if (v1 * (own_p (-p3))) < ((1 : Int64) <<< ((-p1) &&& 0x3f).toInt64) then (0 : Int32) else (if (-p3) = (0 : Int32) then (1 : Int32) else (if (v1 * (own_p ((-p3) - (1 : Int32)))) < ((1 : Int64) <<< ((-p1) &&& 0x3f).toInt64) then (1 : Int32) else (0 : Int32)))) := ⟨_, rfl⟩
        obtain ⟨T72, X72, e72, st72⟩ : own_Mid X61 h61 (mkF m 234 #[vI p1, vI p2, vI p3, vJ v1, .second, vR b4, vI (-p3), vJ ((1 : Int64) <<< ((-p1) &&& 0x3f).toInt64), .second] [iI (lcmpW ((1 : Int64) <<< ((-p1) &&& 0x3f).toInt64) (v1 * (own_p (-p3))))]) (mkF m 262 #[vI p1, vI p2, vI p3, vJ v1, .second, vR b4, vI (-p3), vJ ((1 : Int64) <<< ((-p1) &&& 0x3f).toInt64), .second] [iI v71]) := by
          by_cases hc73 : (v1 * (own_p (-p3))) < ((1 : Int64) <<< ((-p1) &&& 0x3f).toInt64)
          · refine ⟨T61, X61, e61, fun t kt => ?_⟩
            subst hv71
            simp only [if_pos hc73] at kt
            show Steps _ _ _ (T61.setTop (mkF m 234 #[vI p1, vI p2, vI p3, vJ v1, .second, vR b4, vI (-p3), vJ ((1 : Int64) <<< ((-p1) &&& 0x3f).toInt64), .second] [iI (lcmpW ((1 : Int64) <<< ((-p1) &&& 0x3f).toInt64) (v1 * (own_p (-p3))))])) _
            refine XS.ifYes X61.here hx rfl (pc0 := 234) (pc' := 261) rfl (hb hby d3_234) rfl ((if0 _ _).trans (tlt ((lw_gt _ _).mpr hc73)).2.2.1) (by decide) (by decide) ?_
            show Steps _ _ _ (T61.setTop (mkF m 261 #[vI p1, vI p2, vI p3, vJ v1, .second, vR b4, vI (-p3), vJ ((1 : Int64) <<< ((-p1) &&& 0x3f).toInt64), .second] [])) _
            refine XS.iconst X61.here hx rfl (hb hby d3_261) ?_
            exact kt
          · have pre75 : ∀ t, Steps p.tables e below (T61.setTop (mkF m 239 #[vI p1, vI p2, vI p3, vJ v1, .second, vR b4, vI (-p3), vJ ((1 : Int64) <<< ((-p1) &&& 0x3f).toInt64), .second] [iI (-p3)])) t → Steps p.tables e below (T61.setTop (mkF m 234 #[vI p1, vI p2, vI p3, vJ v1, .second, vR b4, vI (-p3), vJ ((1 : Int64) <<< ((-p1) &&& 0x3f).toInt64), .second] [iI (lcmpW ((1 : Int64) <<< ((-p1) &&& 0x3f).toInt64) (v1 * (own_p (-p3))))])) t := by
              intro t kt
              show Steps _ _ _ (T61.setTop (mkF m 234 #[vI p1, vI p2, vI p3, vJ v1, .second, vR b4, vI (-p3), vJ ((1 : Int64) <<< ((-p1) &&& 0x3f).toInt64), .second] [iI (lcmpW ((1 : Int64) <<< ((-p1) &&& 0x3f).toInt64) (v1 * (own_p (-p3))))])) _
              refine XS.ifNo X61.here hx rfl (hb hby d3_234) rfl ((if0 _ _).trans (flt (mt (lw_gt _ _).mp hc73)).2.2.1) ?_
              show Steps _ _ _ (T61.setTop (mkF m 237 #[vI p1, vI p2, vI p3, vJ v1, .second, vR b4, vI (-p3), vJ ((1 : Int64) <<< ((-p1) &&& 0x3f).toInt64), .second] [])) _
              refine XS.iload X61.here hx rfl (hb hby d3_237) rfl ?_
              exact kt
            by_cases hc74 : (-p3) = (0 : Int32)
            · refine ⟨T61, X61, e61, fun t kt => ?_⟩
              subst hv71
              simp only [if_neg hc73, if_pos hc74] at kt
              refine pre75 t ?_
              show Steps _ _ _ (T61.setTop (mkF m 239 #[vI p1, vI p2, vI p3, vJ v1, .second, vR b4, vI (-p3), vJ ((1 : Int64) <<< ((-p1) &&& 0x3f).toInt64), .second] [iI (-p3)])) _
              refine XS.ifYes X61.here hx rfl (pc0 := 239) (pc' := 257) rfl (hb hby d3_239) rfl ((if0 _ _).trans (teq hc74).1) (by decide) (by decide) ?_
              show Steps _ _ _ (T61.setTop (mkF m 257 #[vI p1, vI p2, vI p3, vJ v1, .second, vR b4, vI (-p3), vJ ((1 : Int64) <<< ((-p1) &&& 0x3f).toInt64), .second] [])) _
              refine XS.iconst X61.here hx rfl (hb hby d3_257) ?_
              show Steps _ _ _ (T61.setTop (mkF m 258 #[vI p1, vI p2, vI p3, vJ v1, .second, vR b4, vI (-p3), vJ ((1 : Int64) <<< ((-p1) &&& 0x3f).toInt64), .second] [iI 1])) _
              refine XS.goto X61.here hx rfl (pc0 := 258) (pc' := 262) rfl (hb hby d3_258) (by decide) (by decide) ?_
              exact kt
            · have hin76 : ¬ (((-p3) - (1 : Int32)) < 0 ∨ cl68.slots.size ≤ (((-p3) - (1 : Int32))).toNatClampNeg) := inb_of S68 (by have := rng32 p3; have := rng32 (p3 + 1); have := rng32 (-p3); have := rng32 (-p3 - 1); have := c_iadd p3 1; have := c_ineg p3; have := c_isub (-p3) 1; simp only [Int32.lt_iff_toInt_lt, ← Int32.toInt_inj, own_l0, own_l1, own_l18, own_l19] at *; omega)
              have hat77 : cl68.slots[(((-p3) - (1 : Int32))).toNatClampNeg]? = some (.long (own_p ((-p3) - (1 : Int32)))) := Has.at H68 hin76 (own_pAt _ (by have := rng32 p3; have := rng32 (p3 + 1); have := rng32 (-p3); have := rng32 (-p3 - 1); have := c_iadd p3 1; have := c_ineg p3; have := c_isub (-p3) 1; simp only [Int32.lt_iff_toInt_lt, ← Int32.toInt_inj, own_l0, own_l1, own_l18, own_l19] at *; omega))
              have pre79 : ∀ t, Steps p.tables e below (T61.setTop (mkF m 254 #[vI p1, vI p2, vI p3, vJ v1, .second, vR b4, vI (-p3), vJ ((1 : Int64) <<< ((-p1) &&& 0x3f).toInt64), .second] [iI (lcmpW (v1 * (own_p ((-p3) - (1 : Int32)))) ((1 : Int64) <<< ((-p1) &&& 0x3f).toInt64))])) t → Steps p.tables e below (T61.setTop (mkF m 234 #[vI p1, vI p2, vI p3, vJ v1, .second, vR b4, vI (-p3), vJ ((1 : Int64) <<< ((-p1) &&& 0x3f).toInt64), .second] [iI (lcmpW ((1 : Int64) <<< ((-p1) &&& 0x3f).toInt64) (v1 * (own_p (-p3))))])) t := by
                intro t kt
                refine pre75 t ?_
                show Steps _ _ _ (T61.setTop (mkF m 239 #[vI p1, vI p2, vI p3, vJ v1, .second, vR b4, vI (-p3), vJ ((1 : Int64) <<< ((-p1) &&& 0x3f).toInt64), .second] [iI (-p3)])) _
                refine XS.ifNo X61.here hx rfl (hb hby d3_239) rfl ((if0 _ _).trans (feq hc74).1) ?_
                show Steps _ _ _ (T61.setTop (mkF m 242 #[vI p1, vI p2, vI p3, vJ v1, .second, vR b4, vI (-p3), vJ ((1 : Int64) <<< ((-p1) &&& 0x3f).toInt64), .second] [])) _
                refine XS.lloadN X61.here hx rfl (hb hby d3_242) rfl ?_
                show Steps _ _ _ (T61.setTop (mkF m 243 #[vI p1, vI p2, vI p3, vJ v1, .second, vR b4, vI (-p3), vJ ((1 : Int64) <<< ((-p1) &&& 0x3f).toInt64), .second] [iJ v1])) _
                refine XS.aload X61.here hx rfl (hb hby d3_243) rfl rfl ?_
                show Steps _ _ _ (T61.setTop (mkF m 245 #[vI p1, vI p2, vI p3, vJ v1, .second, vR b4, vI (-p3), vJ ((1 : Int64) <<< ((-p1) &&& 0x3f).toInt64), .second] [iR b4, iJ v1])) _
                refine XS.iload X61.here hx rfl (hb hby d3_245) rfl ?_
                show Steps _ _ _ (T61.setTop (mkF m 247 #[vI p1, vI p2, vI p3, vJ v1, .second, vR b4, vI (-p3), vJ ((1 : Int64) <<< ((-p1) &&& 0x3f).toInt64), .second] [iI (-p3), iR b4, iJ v1])) _
                refine XS.iconst X61.here hx rfl (hb hby d3_247) ?_
                show Steps _ _ _ (T61.setTop (mkF m 248 #[vI p1, vI p2, vI p3, vJ v1, .second, vR b4, vI (-p3), vJ ((1 : Int64) <<< ((-p1) &&& 0x3f).toInt64), .second] [iI 1, iI (-p3), iR b4, iJ v1])) _
                refine XS.isub X61.here hx rfl (hb hby d3_248) rfl ?_
                show Steps _ _ _ (T61.setTop (mkF m 249 #[vI p1, vI p2, vI p3, vJ v1, .second, vR b4, vI (-p3), vJ ((1 : Int64) <<< ((-p1) &&& 0x3f).toInt64), .second] [iI ((-p3) - (1 : Int32)), iR b4, iJ v1])) _
                refine X61.laload hx (j := ((-p3) - (1 : Int32))) (v := (.long (own_p ((-p3) - (1 : Int32))))) (by rw [e61]; exact Ar68.1) (State.isArrayOf_alike hZ.alike Ar68.2.1) Ar68.2.2 hin76 hat77 (g := (mkF m 249 #[vI p1, vI p2, vI p3, vJ v1, .second, vR b4, vI (-p3), vJ ((1 : Int64) <<< ((-p1) &&& 0x3f).toInt64), .second] [iI ((-p3) - (1 : Int32)), iR b4, iJ v1])) rfl rfl (hb hby d3_249) _ ?_
                show Steps _ _ _ (T61.setTop (mkF m 250 #[vI p1, vI p2, vI p3, vJ v1, .second, vR b4, vI (-p3), vJ ((1 : Int64) <<< ((-p1) &&& 0x3f).toInt64), .second] [iJ (own_p ((-p3) - (1 : Int32))), iJ v1])) _
                refine XS.lmul X61.here hx rfl (hb hby d3_250) rfl ?_
                show Steps _ _ _ (T61.setTop (mkF m 251 #[vI p1, vI p2, vI p3, vJ v1, .second, vR b4, vI (-p3), vJ ((1 : Int64) <<< ((-p1) &&& 0x3f).toInt64), .second] [iJ (v1 * (own_p ((-p3) - (1 : Int32))))])) _
                refine XS.lload X61.here hx rfl (hb hby d3_251) rfl ?_
                show Steps _ _ _ (T61.setTop (mkF m 253 #[vI p1, vI p2, vI p3, vJ v1, .second, vR b4, vI (-p3), vJ ((1 : Int64) <<< ((-p1) &&& 0x3f).toInt64), .second] [iJ ((1 : Int64) <<< ((-p1) &&& 0x3f).toInt64), iJ (v1 * (own_p ((-p3) - (1 : Int32))))])) _
                refine XS.lcmp X61.here hx rfl (hb hby d3_253) rfl ?_
                exact kt
              by_cases hc78 : (v1 * (own_p ((-p3) - (1 : Int32)))) < ((1 : Int64) <<< ((-p1) &&& 0x3f).toInt64)
              · refine ⟨T61, X61, e61, fun t kt => ?_⟩
                subst hv71
                simp only [if_neg hc73, if_neg hc74, if_pos hc78] at kt
                refine pre79 t ?_
                show Steps _ _ _ (T61.setTop (mkF m 254 #[vI p1, vI p2, vI p3, vJ v1, .second, vR b4, vI (-p3), vJ ((1 : Int64) <<< ((-p1) &&& 0x3f).toInt64), .second] [iI (lcmpW (v1 * (own_p ((-p3) - (1 : Int32)))) ((1 : Int64) <<< ((-p1) &&& 0x3f).toInt64))])) _
                refine XS.ifNo X61.here hx rfl (hb hby d3_254) rfl ((if0 _ _).trans (tlt ((lw_lt _ _).mpr hc78)).2.1) ?_
                show Steps _ _ _ (T61.setTop (mkF m 257 #[vI p1, vI p2, vI p3, vJ v1, .second, vR b4, vI (-p3), vJ ((1 : Int64) <<< ((-p1) &&& 0x3f).toInt64), .second] [])) _
                refine XS.iconst X61.here hx rfl (hb hby d3_257) ?_
                show Steps _ _ _ (T61.setTop (mkF m 258 #[vI p1, vI p2, vI p3, vJ v1, .second, vR b4, vI (-p3), vJ ((1 : Int64) <<< ((-p1) &&& 0x3f).toInt64), .second] [iI 1])) _
                refine XS.goto X61.here hx rfl (pc0 := 258) (pc' := 262) rfl (hb hby d3_258) (by decide) (by decide) ?_
                exact kt
              · refine ⟨T61, X61, e61, fun t kt => ?_⟩
                subst hv71
                simp only [if_neg hc73, if_neg hc74, if_neg hc78] at kt
                refine pre79 t ?_
                show Steps _ _ _ (T61.setTop (mkF m 254 #[vI p1, vI p2, vI p3, vJ v1, .second, vR b4, vI (-p3), vJ ((1 : Int64) <<< ((-p1) &&& 0x3f).toInt64), .second] [iI (lcmpW (v1 * (own_p ((-p3) - (1 : Int32)))) ((1 : Int64) <<< ((-p1) &&& 0x3f).toInt64))])) _
                refine XS.ifYes X61.here hx rfl (pc0 := 254) (pc' := 261) rfl (hb hby d3_254) rfl ((if0 _ _).trans (flt (mt (lw_lt _ _).mp hc78)).2.1) (by decide) (by decide) ?_
                show Steps _ _ _ (T61.setTop (mkF m 261 #[vI p1, vI p2, vI p3, vJ v1, .second, vR b4, vI (-p3), vJ ((1 : Int64) <<< ((-p1) &&& 0x3f).toInt64), .second] [])) _
                refine XS.iconst X61.here hx rfl (hb hby d3_261) ?_
                exact kt
        obtain ⟨fs, hr, hrun, hended, hW, hsame⟩ := X72.leave (v := some (.int (nar .boolean v71))) (fun h => by rw [Bd.returns] at h; cases h)
        refine ⟨_, _, pre67 _ ?_, hrun, hended, _, _, rfl, ?_, ⟨_, rfl⟩, hW, hsame.mono (by decide) (by decide)⟩
        · show Steps _ _ _ (T61.setTop (mkF m 213 #[vI p1, vI p2, vI p3, vJ v1, .second, vR b4, vI (-p3), .unset, .unset] [iI 18, iI (-p3)])) _
          refine XS.icmpYes X61.here hx rfl (pc0 := 213) (pc' := 218) rfl (hb hby d3_213) rfl (flt hc66).2.2.2 (by decide) (by decide) ?_
          show Steps _ _ _ (T61.setTop (mkF m 218 #[vI p1, vI p2, vI p3, vJ v1, .second, vR b4, vI (-p3), .unset, .unset] [])) _
          refine XS.lconst X61.here hx rfl (hb hby d3_218) ?_
          show Steps _ _ _ (T61.setTop (mkF m 219 #[vI p1, vI p2, vI p3, vJ v1, .second, vR b4, vI (-p3), .unset, .unset] [iJ 1])) _
          refine XS.iloadN X61.here hx rfl (hb hby d3_219) rfl ?_
          show Steps _ _ _ (T61.setTop (mkF m 220 #[vI p1, vI p2, vI p3, vJ v1, .second, vR b4, vI (-p3), .unset, .unset] [iI p1, iJ 1])) _
          refine XS.ineg X61.here hx rfl (hb hby d3_220) rfl ?_
          show Steps _ _ _ (T61.setTop (mkF m 221 #[vI p1, vI p2, vI p3, vJ v1, .second, vR b4, vI (-p3), .unset, .unset] [iI (-p1), iJ 1])) _
          refine XS.lshl X61.here hx rfl (hb hby d3_221) rfl ?_
          show Steps _ _ _ (T61.setTop (mkF m 222 #[vI p1, vI p2, vI p3, vJ v1, .second, vR b4, vI (-p3), .unset, .unset] [iJ ((1 : Int64) <<< ((-p1) &&& 0x3f).toInt64)])) _
          refine XS.lstore X61.here hx rfl (hb hby d3_222) rfl (l' := #[vI p1, vI p2, vI p3, vJ v1, .second, vR b4, vI (-p3), vJ ((1 : Int64) <<< ((-p1) &&& 0x3f).toInt64), .second]) rfl ?_
          show Steps _ _ _ (T61.setTop (mkF m 224 #[vI p1, vI p2, vI p3, vJ v1, .second, vR b4, vI (-p3), vJ ((1 : Int64) <<< ((-p1) &&& 0x3f).toInt64), .second] [])) _
          refine XS.lload X61.here hx rfl (hb hby d3_224) rfl ?_
          show Steps _ _ _ (T61.setTop (mkF m 226 #[vI p1, vI p2, vI p3, vJ v1, .second, vR b4, vI (-p3), vJ ((1 : Int64) <<< ((-p1) &&& 0x3f).toInt64), .second] [iJ ((1 : Int64) <<< ((-p1) &&& 0x3f).toInt64)])) _
          refine XS.lloadN X61.here hx rfl (hb hby d3_226) rfl ?_
          show Steps _ _ _ (T61.setTop (mkF m 227 #[vI p1, vI p2, vI p3, vJ v1, .second, vR b4, vI (-p3), vJ ((1 : Int64) <<< ((-p1) &&& 0x3f).toInt64), .second] [iJ v1, iJ ((1 : Int64) <<< ((-p1) &&& 0x3f).toInt64)])) _
          refine XS.aload X61.here hx rfl (hb hby d3_227) rfl rfl ?_
          show Steps _ _ _ (T61.setTop (mkF m 229 #[vI p1, vI p2, vI p3, vJ v1, .second, vR b4, vI (-p3), vJ ((1 : Int64) <<< ((-p1) &&& 0x3f).toInt64), .second] [iR b4, iJ v1, iJ ((1 : Int64) <<< ((-p1) &&& 0x3f).toInt64)])) _
          refine XS.iload X61.here hx rfl (hb hby d3_229) rfl ?_
          show Steps _ _ _ (T61.setTop (mkF m 231 #[vI p1, vI p2, vI p3, vJ v1, .second, vR b4, vI (-p3), vJ ((1 : Int64) <<< ((-p1) &&& 0x3f).toInt64), .second] [iI (-p3), iR b4, iJ v1, iJ ((1 : Int64) <<< ((-p1) &&& 0x3f).toInt64)])) _
          refine X61.laload hx (j := (-p3)) (v := (.long (own_p (-p3)))) (by rw [e61]; exact Ar68.1) (State.isArrayOf_alike hZ.alike Ar68.2.1) Ar68.2.2 hin69 hat70 (g := (mkF m 231 #[vI p1, vI p2, vI p3, vJ v1, .second, vR b4, vI (-p3), vJ ((1 : Int64) <<< ((-p1) &&& 0x3f).toInt64), .second] [iI (-p3), iR b4, iJ v1, iJ ((1 : Int64) <<< ((-p1) &&& 0x3f).toInt64)])) rfl rfl (hb hby d3_231) _ ?_
          show Steps _ _ _ (T61.setTop (mkF m 232 #[vI p1, vI p2, vI p3, vJ v1, .second, vR b4, vI (-p3), vJ ((1 : Int64) <<< ((-p1) &&& 0x3f).toInt64), .second] [iJ (own_p (-p3)), iJ v1, iJ ((1 : Int64) <<< ((-p1) &&& 0x3f).toInt64)])) _
          refine XS.lmul X61.here hx rfl (hb hby d3_232) rfl ?_
          show Steps _ _ _ (T61.setTop (mkF m 233 #[vI p1, vI p2, vI p3, vJ v1, .second, vR b4, vI (-p3), vJ ((1 : Int64) <<< ((-p1) &&& 0x3f).toInt64), .second] [iJ (v1 * (own_p (-p3))), iJ ((1 : Int64) <<< ((-p1) &&& 0x3f).toInt64)])) _
          refine XS.lcmp X61.here hx rfl (hb hby d3_233) rfl ?_
          show Steps _ _ _ (T61.setTop (mkF m 234 #[vI p1, vI p2, vI p3, vJ v1, .second, vR b4, vI (-p3), vJ ((1 : Int64) <<< ((-p1) &&& 0x3f).toInt64), .second] [iI (lcmpW ((1 : Int64) <<< ((-p1) &&& 0x3f).toInt64) (v1 * (own_p (-p3))))])) _
          refine st72 _ ?_
          show Steps _ _ _ (T72.setTop (mkF m 262 #[vI p1, vI p2, vI p3, vJ v1, .second, vR b4, vI (-p3), vJ ((1 : Int64) <<< ((-p1) &&& 0x3f).toInt64), .second] [iI v71])) _
          exact retN X72 hx (t := .boolean) Bd.returns (by simp) (hb hby d3_262) hr
        · show Q3 Z p1 p2 p3 h0 n0 _ T72.heap _
          rw [e72]
          exact ⟨by subst hv71 hv1; first | rfl | (simp only [own_ex, if_pos hc62, if_neg hc64, if_neg hc66]; done) | (simp only [own_ex, if_pos hc62, if_neg hc64, if_neg hc66]; rfl) | (simp only [own_ex, if_pos hc62, if_neg hc64, if_neg hc66, nar] ; first | rfl | (simp; done) | decide), N61⟩
  · have pre81 : ∀ t, Steps p.tables e below (T61.setTop (mkF m 150 #[vI p1, vI p2, vI p3, vJ v1, .second, vR b4, .unset, .unset, .unset] [iI p3])) t → Steps p.tables e below (s₁.setTop (entryFrame m #[(.int p1), (.int p2), (.int p3)] 9)) t := by
      intro t kt
      refine pre63 t ?_
      show Steps _ _ _ (T61.setTop (mkF m 146 #[vI p1, vI p2, vI p3, vJ v1, .second, vR b4, .unset, .unset, .unset] [iI p1])) _
      refine XS.ifNo X61.here hx rfl (hb hby d3_146) rfl ((if0 _ _).trans (flt hc62).1) ?_
      show Steps _ _ _ (T61.setTop (mkF m 149 #[vI p1, vI p2, vI p3, vJ v1, .second, vR b4, .unset, .unset, .unset] [])) _
      refine XS.iloadN X61.here hx rfl (hb hby d3_149) rfl ?_
      exact kt
    by_cases hc80 : p3 < (0 : Int32)
    · obtain ⟨fs, hr, hrun, hended, hW, hsame⟩ := X61.leave (v := some (.int (0 : Int32))) (fun h => by rw [Bd.returns] at h; cases h)
      refine ⟨_, _, pre81 _ ?_, hrun, hended, _, _, rfl, ?_, ⟨_, rfl⟩, hW, hsame.mono (by decide) (by decide)⟩
      · show Steps _ _ _ (T61.setTop (mkF m 150 #[vI p1, vI p2, vI p3, vJ v1, .second, vR b4, .unset, .unset, .unset] [iI p3])) _
        refine XS.ifYes X61.here hx rfl (pc0 := 150) (pc' := 159) rfl (hb hby d3_150) rfl ((if0 _ _).trans (tlt hc80).1) (by decide) (by decide) ?_
        show Steps _ _ _ (T61.setTop (mkF m 159 #[vI p1, vI p2, vI p3, vJ v1, .second, vR b4, .unset, .unset, .unset] [])) _
        refine XS.iconst X61.here hx rfl (hb hby d3_159) ?_
        show Steps _ _ _ (T61.setTop (mkF m 160 #[vI p1, vI p2, vI p3, vJ v1, .second, vR b4, .unset, .unset, .unset] [iI 0])) _
        exact retN X61 hx (t := .boolean) Bd.returns (by simp) (hb hby d3_160) hr
      · show Q3 Z p1 p2 p3 h0 n0 _ T61.heap _
        rw [e61]
        exact ⟨by subst hv1; first | rfl | (simp only [own_ex, if_neg hc62, if_pos hc80]; done) | (simp only [own_ex, if_neg hc62, if_pos hc80]; rfl) | (simp only [own_ex, if_neg hc62, if_pos hc80, nar] ; first | rfl | (simp; done) | decide), N61⟩
    · have pre83 : ∀ t, Steps p.tables e below (T61.setTop (mkF m 156 #[vI p1, vI p2, vI p3, vJ v1, .second, vR b4, .unset, .unset, .unset] [iI 18, iI p3])) t → Steps p.tables e below (s₁.setTop (entryFrame m #[(.int p1), (.int p2), (.int p3)] 9)) t := by
        intro t kt
        refine pre81 t ?_
        show Steps _ _ _ (T61.setTop (mkF m 150 #[vI p1, vI p2, vI p3, vJ v1, .second, vR b4, .unset, .unset, .unset] [iI p3])) _
        refine XS.ifNo X61.here hx rfl (hb hby d3_150) rfl ((if0 _ _).trans (flt hc80).1) ?_
        show Steps _ _ _ (T61.setTop (mkF m 153 #[vI p1, vI p2, vI p3, vJ v1, .second, vR b4, .unset, .unset, .unset] [])) _
        refine XS.iloadN X61.here hx rfl (hb hby d3_153) rfl ?_
        show Steps _ _ _ (T61.setTop (mkF m 154 #[vI p1, vI p2, vI p3, vJ v1, .second, vR b4, .unset, .unset, .unset] [iI p3])) _
        refine XS.bipush X61.here hx rfl (hb hby d3_154) ?_
        exact kt
      by_cases hc82 : (18 : Int32) < p3
      · obtain ⟨fs, hr, hrun, hended, hW, hsame⟩ := X61.leave (v := some (.int (0 : Int32))) (fun h => by rw [Bd.returns] at h; cases h)
        refine ⟨_, _, pre83 _ ?_, hrun, hended, _, _, rfl, ?_, ⟨_, rfl⟩, hW, hsame.mono (by decide) (by decide)⟩
        · show Steps _ _ _ (T61.setTop (mkF m 156 #[vI p1, vI p2, vI p3, vJ v1, .second, vR b4, .unset, .unset, .unset] [iI 18, iI p3])) _
          refine XS.icmpNo X61.here hx rfl (hb hby d3_156) rfl (tlt hc82).2.2.2 ?_
          show Steps _ _ _ (T61.setTop (mkF m 159 #[vI p1, vI p2, vI p3, vJ v1, .second, vR b4, .unset, .unset, .unset] [])) _
          refine XS.iconst X61.here hx rfl (hb hby d3_159) ?_
          show Steps _ _ _ (T61.setTop (mkF m 160 #[vI p1, vI p2, vI p3, vJ v1, .second, vR b4, .unset, .unset, .unset] [iI 0])) _
          exact retN X61 hx (t := .boolean) Bd.returns (by simp) (hb hby d3_160) hr
        · show Q3 Z p1 p2 p3 h0 n0 _ T61.heap _
          rw [e61]
          exact ⟨by subst hv1; first | rfl | (simp only [own_ex, if_neg hc62, if_neg hc80, if_pos hc82]; done) | (simp only [own_ex, if_neg hc62, if_neg hc80, if_pos hc82]; rfl) | (simp only [own_ex, if_neg hc62, if_neg hc80, if_pos hc82, nar] ; first | rfl | (simp; done) | decide), N61⟩
      · obtain ⟨cl84, Ar84, q84, S84, M84, H84, G84⟩ := V61
        have hin85 : ¬ (p3 < 0 ∨ cl84.slots.size ≤ (p3).toNatClampNeg) := inb_of S84 (by have := rng32 p3; have := rng32 (p3 + 1); have := rng32 (-p3); have := rng32 (-p3 - 1); have := c_iadd p3 1; have := c_ineg p3; have := c_isub (-p3) 1; simp only [Int32.lt_iff_toInt_lt, ← Int32.toInt_inj, own_l0, own_l1, own_l18, own_l19] at *; omega)
        have hat86 : cl84.slots[(p3).toNatClampNeg]? = some (.long (own_p p3)) := Has.at H84 hin85 (own_pAt _ (by have := rng32 p3; have := rng32 (p3 + 1); have := rng32 (-p3); have := rng32 (-p3 - 1); have := c_iadd p3 1; have := c_ineg p3; have := c_isub (-p3) 1; simp only [Int32.lt_iff_toInt_lt, ← Int32.toInt_inj, own_l0, own_l1, own_l18, own_l19] at *; omega))
        obtain ⟨v87, hv87⟩ : ∃ z : Int32, z = (if (v1 <<< (p1 &&& 0x3f).toInt64) < (own_p p3) then (0 : Int32) else (if p3 = (18 : Int32) then (1 : Int32) else (if (v1 <<< (p1 &&& 0x3f).toInt64) < (own_p (p3 + (1 : Int32))) then (1 : Int32) else (0 : Int32)))) := ⟨_, rfl⟩
        obtain ⟨T88, X88, e88, st88⟩ : own_Mid X61 h61 (mkF m 173 #[vI p1, vI p2, vI p3, vJ v1, .second, vR b4, vJ (v1 <<< (p1 &&& 0x3f).toInt64), .second, .unset] [iI (lcmpW (own_p p3) (v1 <<< (p1 &&& 0x3f).toInt64))]) (mkF m 199 #[vI p1, vI p2, vI p3, vJ v1, .second, vR b4, vJ (v1 <<< (p1 &&& 0x3f).toInt64), .second, .unset] [iI v87]) := by
          by_cases hc89 : (v1 <<< (p1 &&& 0x3f).toInt64) < (own_p p3)
          · refine ⟨T61, X61, e61, fun t kt => ?_⟩
            subst hv87
            simp only [if_pos hc89] at kt
            show Steps _ _ _ (T61.setTop (mkF m 173 #[vI p1, vI p2, vI p3, vJ v1, .second, vR b4, vJ (v1 <<< (p1 &&& 0x3f).toInt64), .second, .unset] [iI (lcmpW (own_p p3) (v1 <<< (p1 &&& 0x3f).toInt64))])) _
            refine XS.ifYes X61.here hx rfl (pc0 := 173) (pc' := 198) rfl (hb hby d3_173) rfl ((if0 _ _).trans (tlt ((lw_gt _ _).mpr hc89)).2.2.1) (by decide) (by decide) ?_
            show Steps _ _ _ (T61.setTop (mkF m 198 #[vI p1, vI p2, vI p3, vJ v1, .second, vR b4, vJ (v1 <<< (p1 &&& 0x3f).toInt64), .second, .unset] [])) _
            refine XS.iconst X61.here hx rfl (hb hby d3_198) ?_
            exact kt
          · have pre91 : ∀ t, Steps p.tables e below (T61.setTop (mkF m 179 #[vI p1, vI p2, vI p3, vJ v1, .second, vR b4, vJ (v1 <<< (p1 &&& 0x3f).toInt64), .second, .unset] [iI 18, iI p3])) t → Steps p.tables e below (T61.setTop (mkF m 173 #[vI p1, vI p2, vI p3, vJ v1, .second, vR b4, vJ (v1 <<< (p1 &&& 0x3f).toInt64), .second, .unset] [iI (lcmpW (own_p p3) (v1 <<< (p1 &&& 0x3f).toInt64))])) t := by
              intro t kt
              show Steps _ _ _ (T61.setTop (mkF m 173 #[vI p1, vI p2, vI p3, vJ v1, .second, vR b4, vJ (v1 <<< (p1 &&& 0x3f).toInt64), .second, .unset] [iI (lcmpW (own_p p3) (v1 <<< (p1 &&& 0x3f).toInt64))])) _
              refine XS.ifNo X61.here hx rfl (hb hby d3_173) rfl ((if0 _ _).trans (flt (mt (lw_gt _ _).mp hc89)).2.2.1) ?_
              show Steps _ _ _ (T61.setTop (mkF m 176 #[vI p1, vI p2, vI p3, vJ v1, .second, vR b4, vJ (v1 <<< (p1 &&& 0x3f).toInt64), .second, .unset] [])) _
              refine XS.iloadN X61.here hx rfl (hb hby d3_176) rfl ?_
              show Steps _ _ _ (T61.setTop (mkF m 177 #[vI p1, vI p2, vI p3, vJ v1, .second, vR b4, vJ (v1 <<< (p1 &&& 0x3f).toInt64), .second, .unset] [iI p3])) _
              refine XS.bipush X61.here hx rfl (hb hby d3_177) ?_
              exact kt
            by_cases hc90 : p3 = (18 : Int32)
            · refine ⟨T61, X61, e61, fun t kt => ?_⟩
              subst hv87
              simp only [if_neg hc89, if_pos hc90] at kt
              refine pre91 t ?_
              show Steps _ _ _ (T61.setTop (mkF m 179 #[vI p1, vI p2, vI p3, vJ v1, .second, vR b4, vJ (v1 <<< (p1 &&& 0x3f).toInt64), .second, .unset] [iI 18, iI p3])) _
              refine XS.icmpYes X61.here hx rfl (pc0 := 179) (pc' := 194) rfl (hb hby d3_179) rfl (teq hc90).1 (by decide) (by decide) ?_
              show Steps _ _ _ (T61.setTop (mkF m 194 #[vI p1, vI p2, vI p3, vJ v1, .second, vR b4, vJ (v1 <<< (p1 &&& 0x3f).toInt64), .second, .unset] [])) _
              refine XS.iconst X61.here hx rfl (hb hby d3_194) ?_
              show Steps _ _ _ (T61.setTop (mkF m 195 #[vI p1, vI p2, vI p3, vJ v1, .second, vR b4, vJ (v1 <<< (p1 &&& 0x3f).toInt64), .second, .unset] [iI 1])) _
              refine XS.goto X61.here hx rfl (pc0 := 195) (pc' := 199) rfl (hb hby d3_195) (by decide) (by decide) ?_
              exact kt
            · have hin92 : ¬ ((p3 + (1 : Int32)) < 0 ∨ cl84.slots.size ≤ ((p3 + (1 : Int32))).toNatClampNeg) := inb_of S84 (by have := rng32 p3; have := rng32 (p3 + 1); have := rng32 (-p3); have := rng32 (-p3 - 1); have := c_iadd p3 1; have := c_ineg p3; have := c_isub (-p3) 1; simp only [Int32.lt_iff_toInt_lt, ← Int32.toInt_inj, own_l0, own_l1, own_l18, own_l19] at *; omega)
              have hat93 : cl84.slots[((p3 + (1 : Int32))).toNatClampNeg]? = some (.long (own_p (p3 + (1 : Int32)))) := Has.at H84 hin92 (own_pAt _ (by have := rng32 p3; have := rng32 (p3 + 1); have := rng32 (-p3); have := rng32 (-p3 - 1); have := c_iadd p3 1; have := c_ineg p3; have := c_isub (-p3) 1; simp only [Int32.lt_iff_toInt_lt, ← Int32.toInt_inj, own_l0, own_l1, own_l18, own_l19] at *; omega))
              have pre95 : ∀ t, Steps p.tables e below (T61.setTop (mkF m 191 #[vI p1, vI p2, vI p3, vJ v1, .second, vR b4, vJ (v1 <<< (p1 &&& 0x3f).toInt64), .second, .unset] [iI (lcmpW (v1 <<< (p1 &&& 0x3f).toInt64) (own_p (p3 + (1 : Int32))))])) t → Steps p.tables e below (T61.setTop (mkF m 173 #[vI p1, vI p2, vI p3, vJ v1, .second, vR b4, vJ (v1 <<< (p1 &&& 0x3f).toInt64), .second, .unset] [iI (lcmpW (own_p p3) (v1 <<< (p1 &&& 0x3f).toInt64))])) t := by
                intro t kt
                refine pre91 t ?_
                show Steps _ _ _ (T61.setTop (mkF m 179 #[vI p1, vI p2, vI p3, vJ v1, .second, vR b4, vJ (v1 <<< (p1 &&& 0x3f).toInt64), .second, .unset] [iI 18, iI p3])) _
                refine XS.icmpNo X61.here hx rfl (hb hby d3_179) rfl (feq hc90).1 ?_
                show Steps _ _ _ (T61.setTop (mkF m 182 #[vI p1, vI p2, vI p3, vJ v1, .second, vR b4, vJ (v1 <<< (p1 &&& 0x3f).toInt64), .second, .unset] [])) _
                refine XS.lload X61.here hx rfl (hb hby d3_182) rfl ?_
                show Steps _ _ _ (T61.setTop (mkF m 184 #[vI p1, vI p2, vI p3, vJ v1, .second, vR b4, vJ (v1 <<< (p1 &&& 0x3f).toInt64), .second, .unset] [iJ (v1 <<< (p1 &&& 0x3f).toInt64)])) _
                refine XS.aload X61.here hx rfl (hb hby d3_184) rfl rfl ?_
                show Steps _ _ _ (T61.setTop (mkF m 186 #[vI p1, vI p2, vI p3, vJ v1, .second, vR b4, vJ (v1 <<< (p1 &&& 0x3f).toInt64), .second, .unset] [iR b4, iJ (v1 <<< (p1 &&& 0x3f).toInt64)])) _
                refine XS.iloadN X61.here hx rfl (hb hby d3_186) rfl ?_
                show Steps _ _ _ (T61.setTop (mkF m 187 #[vI p1, vI p2, vI p3, vJ v1, .second, vR b4, vJ (v1 <<< (p1 &&& 0x3f).toInt64), .second, .unset] [iI p3, iR b4, iJ (v1 <<< (p1 &&& 0x3f).toInt64)])) _
                refine XS.iconst X61.here hx rfl (hb hby d3_187) ?_
                show Steps _ _ _ (T61.setTop (mkF m 188 #[vI p1, vI p2, vI p3, vJ v1, .second, vR b4, vJ (v1 <<< (p1 &&& 0x3f).toInt64), .second, .unset] [iI 1, iI p3, iR b4, iJ (v1 <<< (p1 &&& 0x3f).toInt64)])) _
                refine XS.iadd X61.here hx rfl (hb hby d3_188) rfl ?_
                show Steps _ _ _ (T61.setTop (mkF m 189 #[vI p1, vI p2, vI p3, vJ v1, .second, vR b4, vJ (v1 <<< (p1 &&& 0x3f).toInt64), .second, .unset] [iI (p3 + (1 : Int32)), iR b4, iJ (v1 <<< (p1 &&& 0x3f).toInt64)])) _
                refine X61.laload hx (j := (p3 + (1 : Int32))) (v := (.long (own_p (p3 + (1 : Int32))))) (by rw [e61]; exact Ar84.1) (State.isArrayOf_alike hZ.alike Ar84.2.1) Ar84.2.2 hin92 hat93 (g := (mkF m 189 #[vI p1, vI p2, vI p3, vJ v1, .second, vR b4, vJ (v1 <<< (p1 &&& 0x3f).toInt64), .second, .unset] [iI (p3 + (1 : Int32)), iR b4, iJ (v1 <<< (p1 &&& 0x3f).toInt64)])) rfl rfl (hb hby d3_189) _ ?_
                show Steps _ _ _ (T61.setTop (mkF m 190 #[vI p1, vI p2, vI p3, vJ v1, .second, vR b4, vJ (v1 <<< (p1 &&& 0x3f).toInt64), .second, .unset] [iJ (own_p (p3 + (1 : Int32))), iJ (v1 <<< (p1 &&& 0x3f).toInt64)])) _
                refine XS.lcmp X61.here hx rfl (hb hby d3_190) rfl ?_
                exact kt
              by_cases hc94 : (v1 <<< (p1 &&& 0x3f).toInt64) < (own_p (p3 + (1 : Int32)))
              · refine ⟨T61, X61, e61, fun t kt => ?_⟩
                subst hv87
                simp only [if_neg hc89, if_neg hc90, if_pos hc94] at kt
                refine pre95 t ?_
                show Steps _ _ _ (T61.setTop (mkF m 191 #[vI p1, vI p2, vI p3, vJ v1, .second, vR b4, vJ (v1 <<< (p1 &&& 0x3f).toInt64), .second, .unset] [iI (lcmpW (v1 <<< (p1 &&& 0x3f).toInt64) (own_p (p3 + (1 : Int32))))])) _
                refine XS.ifNo X61.here hx rfl (hb hby d3_191) rfl ((if0 _ _).trans (tlt ((lw_lt _ _).mpr hc94)).2.1) ?_
                show Steps _ _ _ (T61.setTop (mkF m 194 #[vI p1, vI p2, vI p3, vJ v1, .second, vR b4, vJ (v1 <<< (p1 &&& 0x3f).toInt64), .second, .unset] [])) _
                refine XS.iconst X61.here hx rfl (hb hby d3_194) ?_
                show Steps _ _ _ (T61.setTop (mkF m 195 #[vI p1, vI p2, vI p3, vJ v1, .second, vR b4, vJ (v1 <<< (p1 &&& 0x3f).toInt64), .second, .unset] [iI 1])) _
                refine XS.goto X61.here hx rfl (pc0 := 195) (pc' := 199) rfl (hb hby d3_195) (by decide) (by decide) ?_
                exact kt
              · refine ⟨T61, X61, e61, fun t kt => ?_⟩
                subst hv87
                simp only [if_neg hc89, if_neg hc90, if_neg hc94] at kt
                refine pre95 t ?_
                show Steps _ _ _ (T61.setTop (mkF m 191 #[vI p1, vI p2, vI p3, vJ v1, .second, vR b4, vJ (v1 <<< (p1 &&& 0x3f).toInt64), .second, .unset] [iI (lcmpW (v1 <<< (p1 &&& 0x3f).toInt64) (own_p (p3 + (1 : Int32))))])) _
                refine XS.ifYes X61.here hx rfl (pc0 := 191) (pc' := 198) rfl (hb hby d3_191) rfl ((if0 _ _).trans (flt (mt (lw_lt _ _).mp hc94)).2.1) (by decide) (by decide) ?_
                show Steps _ _ _ (T61.setTop (mkF m 198 #[vI p1, vI p2, vI p3, vJ v1, .second, vR b4, vJ (v1 <<< (p1 &&& 0x3f).toInt64), .second, .unset] [])) _
                refine XS.iconst X61.here hx rfl (hb hby d3_198) ?_
                exact kt
        obtain ⟨fs, hr, hrun, hended, hW, hsame⟩ := X88.leave (v := some (.int (nar .boolean v87))) (fun h => by rw [Bd.returns] at h; cases h)
        refine ⟨_, _, pre83 _ ?_, hrun, hended, _, _, rfl, ?_, ⟨_, rfl⟩, hW, hsame.mono (by decide) (by decide)⟩
        · show Steps _ _ _ (T61.setTop (mkF m 156 #[vI p1, vI p2, vI p3, vJ v1, .second, vR b4, .unset, .unset, .unset] [iI 18, iI p3])) _
          refine XS.icmpYes X61.here hx rfl (pc0 := 156) (pc' := 161) rfl (hb hby d3_156) rfl (flt hc82).2.2.2 (by decide) (by decide) ?_
          show Steps _ _ _ (T61.setTop (mkF m 161 #[vI p1, vI p2, vI p3, vJ v1, .second, vR b4, .unset, .unset, .unset] [])) _
          refine XS.lloadN X61.here hx rfl (hb hby d3_161) rfl ?_
          show Steps _ _ _ (T61.setTop (mkF m 162 #[vI p1, vI p2, vI p3, vJ v1, .second, vR b4, .unset, .unset, .unset] [iJ v1])) _
          refine XS.iloadN X61.here hx rfl (hb hby d3_162) rfl ?_
          show Steps _ _ _ (T61.setTop (mkF m 163 #[vI p1, vI p2, vI p3, vJ v1, .second, vR b4, .unset, .unset, .unset] [iI p1, iJ v1])) _
          refine XS.lshl X61.here hx rfl (hb hby d3_163) rfl ?_
          show Steps _ _ _ (T61.setTop (mkF m 164 #[vI p1, vI p2, vI p3, vJ v1, .second, vR b4, .unset, .unset, .unset] [iJ (v1 <<< (p1 &&& 0x3f).toInt64)])) _
          refine XS.lstore X61.here hx rfl (hb hby d3_164) rfl (l' := #[vI p1, vI p2, vI p3, vJ v1, .second, vR b4, vJ (v1 <<< (p1 &&& 0x3f).toInt64), .second, .unset]) rfl ?_
          show Steps _ _ _ (T61.setTop (mkF m 166 #[vI p1, vI p2, vI p3, vJ v1, .second, vR b4, vJ (v1 <<< (p1 &&& 0x3f).toInt64), .second, .unset] [])) _
          refine XS.aload X61.here hx rfl (hb hby d3_166) rfl rfl ?_
          show Steps _ _ _ (T61.setTop (mkF m 168 #[vI p1, vI p2, vI p3, vJ v1, .second, vR b4, vJ (v1 <<< (p1 &&& 0x3f).toInt64), .second, .unset] [iR b4])) _
          refine XS.iloadN X61.here hx rfl (hb hby d3_168) rfl ?_
          show Steps _ _ _ (T61.setTop (mkF m 169 #[vI p1, vI p2, vI p3, vJ v1, .second, vR b4, vJ (v1 <<< (p1 &&& 0x3f).toInt64), .second, .unset] [iI p3, iR b4])) _
          refine X61.laload hx (j := p3) (v := (.long (own_p p3))) (by rw [e61]; exact Ar84.1) (State.isArrayOf_alike hZ.alike Ar84.2.1) Ar84.2.2 hin85 hat86 (g := (mkF m 169 #[vI p1, vI p2, vI p3, vJ v1, .second, vR b4, vJ (v1 <<< (p1 &&& 0x3f).toInt64), .second, .unset] [iI p3, iR b4])) rfl rfl (hb hby d3_169) _ ?_
          show Steps _ _ _ (T61.setTop (mkF m 170 #[vI p1, vI p2, vI p3, vJ v1, .second, vR b4, vJ (v1 <<< (p1 &&& 0x3f).toInt64), .second, .unset] [iJ (own_p p3)])) _
          refine XS.lload X61.here hx rfl (hb hby d3_170) rfl ?_
          show Steps _ _ _ (T61.setTop (mkF m 172 #[vI p1, vI p2, vI p3, vJ v1, .second, vR b4, vJ (v1 <<< (p1 &&& 0x3f).toInt64), .second, .unset] [iJ (v1 <<< (p1 &&& 0x3f).toInt64), iJ (own_p p3)])) _
          refine XS.lcmp X61.here hx rfl (hb hby d3_172) rfl ?_
          show Steps _ _ _ (T61.setTop (mkF m 173 #[vI p1, vI p2, vI p3, vJ v1, .second, vR b4, vJ (v1 <<< (p1 &&& 0x3f).toInt64), .second, .unset] [iI (lcmpW (own_p p3) (v1 <<< (p1 &&& 0x3f).toInt64))])) _
          refine st88 _ ?_
          show Steps _ _ _ (T88.setTop (mkF m 199 #[vI p1, vI p2, vI p3, vJ v1, .second, vR b4, vJ (v1 <<< (p1 &&& 0x3f).toInt64), .second, .unset] [iI v87])) _
          exact retN X88 hx (t := .boolean) Bd.returns (by simp) (hb hby d3_199) hr
        · show Q3 Z p1 p2 p3 h0 n0 _ T88.heap _
          rw [e88]
          exact ⟨by subst hv87 hv1; first | rfl | (simp only [own_ex, if_neg hc62, if_neg hc80, if_neg hc82]; done) | (simp only [own_ex, if_neg hc62, if_neg hc80, if_neg hc82]; rfl) | (simp only [own_ex, if_neg hc62, if_neg hc80, if_neg hc82, nar] ; first | rfl | (simp; done) | decide), N61⟩
theorem own_rem (x y : Int32) (d : Int) (hy : y.toInt = d) (hd : 0 < d) : 0 ≤ ((x &&& 2147483647) % y).toInt ∧ ((x &&& 2147483647) % y).toInt < d := by
  have h0 : 0 ≤ (x &&& 2147483647).toInt := (c_and x 2147483647 (by decide)).1
  rw [(c_irem (x &&& 2147483647) y d hy).1 h0]
  exact ⟨Int.emod_nonneg _ (by omega), Int.emod_lt_of_pos _ hd⟩
theorem own_ofNat (v : Int32) (n : Nat) (hn : n ≤ 1000000) (h0 : 0 ≤ v.toInt) (h1 : v.toInt < n) : ∃ i, i < n ∧ v = Int32.ofNat i := by
  refine ⟨v.toInt.toNat, by omega, Int32.toInt_inj.mp ?_⟩
  rw [Int32.toInt_ofNat_of_lt (by omega)]; omega
theorem own_allS : (List.range 2046).all (fun i => (own_sand ((-1076 : Int32) + Int32.ofNat i) 0 (own_fl ((-1076 : Int32) + Int32.ofNat i) 0) == 1) && (own_sand ((-1076 : Int32) + Int32.ofNat i) 1 (own_fl ((-1076 : Int32) + Int32.ofNat i) 1) == 1)) = true := by decide +kernel
theorem own_allE : (List.range 120).all (fun i => (own_ex ((-59 : Int32) + Int32.ofNat i) 0 (own_fl ((-59 : Int32) + Int32.ofNat i) 0) == 1) && (own_ex ((-59 : Int32) + Int32.ofNat i) 1 (own_fl ((-59 : Int32) + Int32.ofNat i) 1) == 1)) = true := by decide +kernel
theorem own_S (x t : Int32) (ht : t = 0 ∨ t = 1) : own_sand ((-1076 : Int32) + ((x &&& (2147483647 : Int32)) % (2046 : Int32))) t (own_fl ((-1076 : Int32) + ((x &&& (2147483647 : Int32)) % (2046 : Int32))) t) = 1 := by
  obtain ⟨i, hi, e⟩ := own_ofNat _ 2046 (by decide) (own_rem x 2046 2046 rfl (by decide)).1 (own_rem x 2046 2046 rfl (by decide)).2
  rw [e]
  have h := List.all_eq_true.mp own_allS i (List.mem_range.mpr hi)
  simp only [Bool.and_eq_true, beq_iff_eq] at h
  rcases ht with rfl | rfl
  · exact h.1
  · exact h.2
theorem own_E (x t : Int32) (ht : t = 0 ∨ t = 1) : own_ex ((-59 : Int32) + ((x &&& (2147483647 : Int32)) % (120 : Int32))) t (own_fl ((-59 : Int32) + ((x &&& (2147483647 : Int32)) % (120 : Int32))) t) = 1 := by
  obtain ⟨i, hi, e⟩ := own_ofNat _ 120 (by decide) (own_rem x 120 120 rfl (by decide)).1 (own_rem x 120 120 rfl (by decide)).2
  rw [e]
  have h := List.all_eq_true.mp own_allE i (List.mem_range.mpr hi)
  simp only [Bool.and_eq_true, beq_iff_eq] at h
  rcases ht with rfl | rfl
  · exact h.1
  · exact h.2

theorem ef_0 (m : MethodId) (x0 : Int32) (x1 : Int32) (x2 : Int32) : entryFrame m #[(.int x0), (.int x1), (.int x2)] maxLocals = mkF m 0 #[.val (.int x0), .val (.int x1), .val (.int x2), .unset, .unset, .unset, .unset, .unset] [] := by first | (simp [entryFrame, mkF, argsToLocals, Value.category, maxLocals]; done) | rfl
def Q0 (Z : State) (p1 : Int32) (p2 : Int32) (p3 : Int32) (h0 : Heap) (n0 : Nat) (v : Option Value) (h : Heap) (L : List Loc) : Prop := v = some (.int (1 : Int32)) ∧ Fr n0 L
set_option maxRecDepth 65536 in
set_option maxHeartbeats 40000000 in
theorem rm0 (l : Launch) (Z : State) (a0 : Array Value) (hw : ∀ d ∈ tables_1, d.before a0 Z = true) (ws : List Jvm.Cond) (p1 : Int32) (p2 : Int32) (p3 : Int32) (h0 : Heap) (n0 : Nat) (Z0 : n0 ≤ h0.size) :
    MetFree l x (head1 (Jvm.Cond.code x code maxLocals ret :: ws) room_1) (fun a U => a = #[(.int p1), (.int p2), (.int p3)] ∧ Z.Warmed39 U.vm ∧ U.heap = h0) (fun _ _ _ _ _ => True) (fun _ U o U' => ∃ v L, o = .returned v ∧ Q0 Z p1 p2 p3 h0 n0 v U'.heap L ∧ FrameEnd U o U' L room_1.cells room_1.slots) := by
  refine MetFree.of_bodySF (plainFor_of_name pn_1) hisR ?_
  intro p e s m args below meth c s₁ Bd hml0 hP hK
  obtain ⟨rfl, hZ, hh⟩ := hP
  have hx := Bd.exec
  have hby := Bd.bytes
  have hml : c.maxLocals = 8 := hml0
  have hown : s.vm.findClass "com/example/plainjson/plainjson/JsonNumberFloorLog10PinLaw" = some m.cls := findClass_of_methodNamed Bd.named
  have hnm := (name_of_methodNamed Bd.named Bd.method).1
  have X0 : Stand p l e room_1 s m #[(.int p1), (.int p2), (.int p3)] below meth c s₁ [] 0 0 := Stand.of_body Bd
  have e0 : s₁.heap = h0 := by rw [← hh, Bd.state]; rfl
  have N0 := Fr.nil n0
  have K0 := Keep.refl h0 []
  have pre0 : ∀ t, Steps p.tables e below (s₁.setTop (mkF m 0 #[.val (.int p1), .val (.int p2), .val (.int p3), .unset, .unset, .unset, .unset, .unset] [])) t → Steps p.tables e below (s₁.setTop (entryFrame m #[(.int p1), (.int p2), (.int p3)] maxLocals)) t := fun t k => castTop (ef_0 m p1 p2 p3) k
  obtain ⟨v1, hv1⟩ : ∃ z : Int32, z = (if (p2 &&& (1 : Int32)) = (0 : Int32) then (0 : Int32) else (1 : Int32)) := ⟨_, rfl⟩
  obtain ⟨T2, X2, e2, st2⟩ : own_Mid X0 h0 (mkF m 3 #[vI p1, vI p2, vI p3, .unset, .unset, .unset, .unset, .unset] [iI (p2 &&& (1 : Int32))]) (mkF m 11 #[vI p1, vI p2, vI p3, .unset, .unset, .unset, .unset, .unset] [iI v1]) := by
    by_cases hc3 : (p2 &&& (1 : Int32)) = (0 : Int32)
    · refine ⟨s₁, X0, e0, fun t kt => ?_⟩
      subst hv1
      simp only [if_pos hc3] at kt
      show Steps _ _ _ (s₁.setTop (mkF m 3 #[vI p1, vI p2, vI p3, .unset, .unset, .unset, .unset, .unset] [iI (p2 &&& (1 : Int32))])) _
      refine XS.ifYes X0.here hx rfl (pc0 := 3) (pc' := 10) rfl (hb hby at_3) rfl ((if0 _ _).trans (teq hc3).1) (by decide) (by decide) ?_
      show Steps _ _ _ (s₁.setTop (mkF m 10 #[vI p1, vI p2, vI p3, .unset, .unset, .unset, .unset, .unset] [])) _
      refine XS.iconst X0.here hx rfl (hb hby at_10) ?_
      exact kt
    · refine ⟨s₁, X0, e0, fun t kt => ?_⟩
      subst hv1
      simp only [if_neg hc3] at kt
      show Steps _ _ _ (s₁.setTop (mkF m 3 #[vI p1, vI p2, vI p3, .unset, .unset, .unset, .unset, .unset] [iI (p2 &&& (1 : Int32))])) _
      refine XS.ifNo X0.here hx rfl (hb hby at_3) rfl ((if0 _ _).trans (feq hc3).1) ?_
      show Steps _ _ _ (s₁.setTop (mkF m 6 #[vI p1, vI p2, vI p3, .unset, .unset, .unset, .unset, .unset] [])) _
      refine XS.iconst X0.here hx rfl (hb hby at_6) ?_
      show Steps _ _ _ (s₁.setTop (mkF m 7 #[vI p1, vI p2, vI p3, .unset, .unset, .unset, .unset, .unset] [iI 1])) _
      refine XS.goto X0.here hx rfl (pc0 := 7) (pc' := 11) rfl (hb hby at_7) (by decide) (by decide) ?_
      exact kt
  have qt : v1 = 0 ∨ v1 = 1 := by rw [hv1]; split <;> simp
  obtain ⟨_, _, ⟨T4, L4, k4, n4⟩, -, X4, ⟨Lc4, hQ4, l4, y4, z4⟩, st4⟩ := Jvm.LawKit.callS X2 hx (y := (⟨"com/example/plainjson/plainjson/JsonNumber", "floorLog10", "(IZ)I"⟩ : MethodName)) hown (mvT hZ (hw _ (List.mem_of_getElem? (i := 1) rfl))) (mvT hZ (hw _ (List.mem_of_getElem? (i := 2) rfl))) (mvT hZ (hw _ (List.mem_of_getElem? (i := 3) rfl))) (mvT hZ (hw _ (List.mem_of_getElem? (i := 4) rfl))) (by decide) (backOf (W := 0) (rm1 l Z a0 hw [] ((-1076 : Int32) + ((p1 &&& (2147483647 : Int32)) % (2046 : Int32))) v1 h0 ) hZ (hw _ (List.mem_of_getElem? (i := 4) rfl)) (hw _ (List.mem_of_getElem? (i := 3) rfl)) (by decide) (by decide)) (g := (mkF m 29 #[vI p1, vI p2, vI p3, vI v1, vI ((-1076 : Int32) + ((p1 &&& (2147483647 : Int32)) % (2046 : Int32))), .unset, .unset, .unset] [iI v1, iI ((-1076 : Int32) + ((p1 &&& (2147483647 : Int32)) % (2046 : Int32)))])) rfl (by rw [hml]; rfl) (argsL := [(.int ((-1076 : Int32) + ((p1 &&& (2147483647 : Int32)) % (2046 : Int32)))), (.int v1)]) (rest := []) (lenOf pd_0 rfl) rfl (by show 2 * 0 + _ ≤ _; exact Nat.le_of_eq rfl) (hb hby at_29) (fun _ _ => ⟨rfl, e2, (by decide : 0 + 0 ≤ _), (by decide : 0 + 0 ≤ _)⟩)
  dsimp only [Pt.U, Pt.locs, Pt.cells, Pt.slots] at X4 l4 y4 z4 st4 hQ4
  subst l4 y4 z4
  obtain ⟨rfl, rfl, e4⟩ := hQ4
  try rw [List.append_nil] at X4
  obtain ⟨_, _, ⟨T5, L5, k5, n5⟩, -, X5, ⟨Lc5, hQ5, l5, y5, z5⟩, st5⟩ := Jvm.LawKit.callS X4 hx (y := (⟨"com/example/plainjson/plainjson/JsonNumber", "floorLog10", "(IZ)I"⟩ : MethodName)) hown (mvT hZ (hw _ (List.mem_of_getElem? (i := 1) rfl))) (mvT hZ (hw _ (List.mem_of_getElem? (i := 2) rfl))) (mvT hZ (hw _ (List.mem_of_getElem? (i := 3) rfl))) (mvT hZ (hw _ (List.mem_of_getElem? (i := 4) rfl))) (by decide) (backOf (W := 0) (rm1 l Z a0 hw [] ((-59 : Int32) + ((p3 &&& (2147483647 : Int32)) % (120 : Int32))) v1 h0 ) hZ (hw _ (List.mem_of_getElem? (i := 4) rfl)) (hw _ (List.mem_of_getElem? (i := 3) rfl)) (by decide) (by decide)) (g := (mkF m 49 #[vI p1, vI p2, vI p3, vI v1, vI ((-1076 : Int32) + ((p1 &&& (2147483647 : Int32)) % (2046 : Int32))), vI (own_fl ((-1076 : Int32) + ((p1 &&& (2147483647 : Int32)) % (2046 : Int32))) v1), vI ((-59 : Int32) + ((p3 &&& (2147483647 : Int32)) % (120 : Int32))), .unset] [iI v1, iI ((-59 : Int32) + ((p3 &&& (2147483647 : Int32)) % (120 : Int32)))])) rfl (by rw [hml]; rfl) (argsL := [(.int ((-59 : Int32) + ((p3 &&& (2147483647 : Int32)) % (120 : Int32)))), (.int v1)]) (rest := []) (lenOf pd_0 rfl) rfl (by show 2 * 0 + _ ≤ _; exact Nat.le_of_eq rfl) (hb hby at_49) (fun _ _ => ⟨rfl, e4, (by decide : 0 + 0 ≤ _), (by decide : 0 + 0 ≤ _)⟩)
  dsimp only [Pt.U, Pt.locs, Pt.cells, Pt.slots] at X5 l5 y5 z5 st5 hQ5
  subst l5 y5 z5
  obtain ⟨rfl, rfl, e5⟩ := hQ5
  try rw [List.append_nil] at X5
  obtain ⟨_, _, ⟨T6, L6, k6, n6⟩, -, X6, ⟨Lc6, hQ6, l6, y6, z6⟩, st6⟩ := Jvm.LawKit.callS X5 hx (y := (⟨"com/example/plainjson/plainjson/JsonNumberFloorLog10PinLaw", "sandwich", "(IZI)Z"⟩ : MethodName)) hown (mvT hZ (hw _ (List.mem_of_getElem? (i := 7) rfl))) (mvT hZ (hw _ (List.mem_of_getElem? (i := 8) rfl))) (mvT hZ (hw _ (List.mem_of_getElem? (i := 9) rfl))) (mvT hZ (hw _ (List.mem_of_getElem? (i := 10) rfl))) (by decide) (backOf (W := 0) (rm2 l Z a0 hw [] ((-1076 : Int32) + ((p1 &&& (2147483647 : Int32)) % (2046 : Int32))) v1 (own_fl ((-1076 : Int32) + ((p1 &&& (2147483647 : Int32)) % (2046 : Int32))) v1) h0 ) hZ (hw _ (List.mem_of_getElem? (i := 10) rfl)) (hw _ (List.mem_of_getElem? (i := 9) rfl)) (by decide) (by decide)) (g := (mkF m 59 #[vI p1, vI p2, vI p3, vI v1, vI ((-1076 : Int32) + ((p1 &&& (2147483647 : Int32)) % (2046 : Int32))), vI (own_fl ((-1076 : Int32) + ((p1 &&& (2147483647 : Int32)) % (2046 : Int32))) v1), vI ((-59 : Int32) + ((p3 &&& (2147483647 : Int32)) % (120 : Int32))), vI (own_fl ((-59 : Int32) + ((p3 &&& (2147483647 : Int32)) % (120 : Int32))) v1)] [iI (own_fl ((-1076 : Int32) + ((p1 &&& (2147483647 : Int32)) % (2046 : Int32))) v1), iI v1, iI ((-1076 : Int32) + ((p1 &&& (2147483647 : Int32)) % (2046 : Int32)))])) rfl (by rw [hml]; rfl) (argsL := [(.int ((-1076 : Int32) + ((p1 &&& (2147483647 : Int32)) % (2046 : Int32)))), (.int v1), (.int (own_fl ((-1076 : Int32) + ((p1 &&& (2147483647 : Int32)) % (2046 : Int32))) v1))]) (rest := []) (lenOf pd_1 rfl) rfl (by show 2 * 0 + _ ≤ _; exact Nat.le_of_eq rfl) (hb hby at_59) (fun _ _ => ⟨rfl, e5, (by decide : 0 + 0 ≤ _), (by decide : 0 + 0 ≤ _)⟩)
  dsimp only [Pt.U, Pt.locs, Pt.cells, Pt.slots] at X6 l6 y6 z6 st6 hQ6
  subst l6 y6 z6
  obtain ⟨rfl, rfl, e6⟩ := hQ6
  try rw [List.append_nil] at X6
  have hh7 : ¬ ((own_sand ((-1076 : Int32) + ((p1 &&& (2147483647 : Int32)) % (2046 : Int32))) v1 (own_fl ((-1076 : Int32) + ((p1 &&& (2147483647 : Int32)) % (2046 : Int32))) v1)) = (0 : Int32)) := (by rw [own_S p1 _ qt]; decide)
  obtain ⟨_, _, ⟨T8, L8, k8, n8⟩, -, X8, ⟨Lc8, hQ8, l8, y8, z8⟩, st8⟩ := Jvm.LawKit.callS X6 hx (y := (⟨"com/example/plainjson/plainjson/JsonNumberFloorLog10PinLaw", "exact", "(IZI)Z"⟩ : MethodName)) hown (mvT hZ (hw _ (List.mem_of_getElem? (i := 13) rfl))) (mvT hZ (hw _ (List.mem_of_getElem? (i := 14) rfl))) (mvT hZ (hw _ (List.mem_of_getElem? (i := 9) rfl))) (mvT hZ (hw _ (List.mem_of_getElem? (i := 15) rfl))) (by decide) (backOf (W := 0) (rm3 l Z a0 hw [] ((-59 : Int32) + ((p3 &&& (2147483647 : Int32)) % (120 : Int32))) v1 (own_fl ((-59 : Int32) + ((p3 &&& (2147483647 : Int32)) % (120 : Int32))) v1) h0 n0 (Nat.le_trans Z0 K0.1) ) hZ (hw _ (List.mem_of_getElem? (i := 15) rfl)) (hw _ (List.mem_of_getElem? (i := 9) rfl)) (by decide) (by decide)) (g := (mkF m 70 #[vI p1, vI p2, vI p3, vI v1, vI ((-1076 : Int32) + ((p1 &&& (2147483647 : Int32)) % (2046 : Int32))), vI (own_fl ((-1076 : Int32) + ((p1 &&& (2147483647 : Int32)) % (2046 : Int32))) v1), vI ((-59 : Int32) + ((p3 &&& (2147483647 : Int32)) % (120 : Int32))), vI (own_fl ((-59 : Int32) + ((p3 &&& (2147483647 : Int32)) % (120 : Int32))) v1)] [iI (own_fl ((-59 : Int32) + ((p3 &&& (2147483647 : Int32)) % (120 : Int32))) v1), iI v1, iI ((-59 : Int32) + ((p3 &&& (2147483647 : Int32)) % (120 : Int32)))])) rfl (by rw [hml]; rfl) (argsL := [(.int ((-59 : Int32) + ((p3 &&& (2147483647 : Int32)) % (120 : Int32)))), (.int v1), (.int (own_fl ((-59 : Int32) + ((p3 &&& (2147483647 : Int32)) % (120 : Int32))) v1))]) (rest := []) (lenOf pd_1 rfl) rfl (by show 2 * 0 + _ ≤ _; exact Nat.le_of_eq rfl) (hb hby at_70) (fun _ _ => ⟨rfl, e6, (by decide : 0 + 1 ≤ _), (by decide : 0 + 19 ≤ _)⟩)
  dsimp only [Pt.U, Pt.locs, Pt.cells, Pt.slots] at X8 l8 y8 z8 st8 hQ8
  subst l8 y8 z8
  obtain ⟨rfl, N8q⟩ := hQ8
  have N8 := Fr.app N0 N8q
  have hh9 : ¬ ((own_ex ((-59 : Int32) + ((p3 &&& (2147483647 : Int32)) % (120 : Int32))) v1 (own_fl ((-59 : Int32) + ((p3 &&& (2147483647 : Int32)) % (120 : Int32))) v1)) = (0 : Int32)) := (by rw [own_E p3 _ qt]; decide)
  obtain ⟨fs, hr, hrun, hended, hW, hsame⟩ := X8.leave (v := some (.int (1 : Int32))) (fun h => by rw [Bd.returns] at h; cases h)
  refine ⟨_, _, pre0 _ ?_, hrun, hended, _, _, rfl, ?_, ⟨_, rfl⟩, hW, hsame.mono (by decide) (by decide)⟩
  · show Steps _ _ _ (s₁.setTop (mkF m 0 #[vI p1, vI p2, vI p3, .unset, .unset, .unset, .unset, .unset] [])) _
    refine XS.iloadN X0.here hx rfl (hb hby at_0) rfl ?_
    show Steps _ _ _ (s₁.setTop (mkF m 1 #[vI p1, vI p2, vI p3, .unset, .unset, .unset, .unset, .unset] [iI p2])) _
    refine XS.iconst X0.here hx rfl (hb hby at_1) ?_
    show Steps _ _ _ (s₁.setTop (mkF m 2 #[vI p1, vI p2, vI p3, .unset, .unset, .unset, .unset, .unset] [iI 1, iI p2])) _
    refine XS.iand X0.here hx rfl (hb hby at_2) rfl ?_
    show Steps _ _ _ (s₁.setTop (mkF m 3 #[vI p1, vI p2, vI p3, .unset, .unset, .unset, .unset, .unset] [iI (p2 &&& (1 : Int32))])) _
    refine st2 _ ?_
    show Steps _ _ _ (T2.setTop (mkF m 11 #[vI p1, vI p2, vI p3, .unset, .unset, .unset, .unset, .unset] [iI v1])) _
    refine XS.istoreN X2.here hx rfl (hb hby at_11) rfl (l' := #[vI p1, vI p2, vI p3, vI v1, .unset, .unset, .unset, .unset]) rfl ?_
    show Steps _ _ _ (T2.setTop (mkF m 12 #[vI p1, vI p2, vI p3, vI v1, .unset, .unset, .unset, .unset] [])) _
    refine XS.sipush X2.here hx rfl (hb hby at_12) ?_
    show Steps _ _ _ (T2.setTop (mkF m 15 #[vI p1, vI p2, vI p3, vI v1, .unset, .unset, .unset, .unset] [iI (-1076)])) _
    refine XS.iloadN X2.here hx rfl (hb hby at_15) rfl ?_
    show Steps _ _ _ (T2.setTop (mkF m 16 #[vI p1, vI p2, vI p3, vI v1, .unset, .unset, .unset, .unset] [iI p1, iI (-1076)])) _
    refine X2.ldcInt hx hown (mvT hZ (hw _ (List.mem_of_getElem? (i := 0) rfl))) (g := (mkF m 16 #[vI p1, vI p2, vI p3, vI v1, .unset, .unset, .unset, .unset] [iI p1, iI (-1076)])) rfl (hb hby at_16) _ ?_
    show Steps _ _ _ (T2.setTop (mkF m 18 #[vI p1, vI p2, vI p3, vI v1, .unset, .unset, .unset, .unset] [iI 2147483647, iI p1, iI (-1076)])) _
    refine XS.iand X2.here hx rfl (hb hby at_18) rfl ?_
    show Steps _ _ _ (T2.setTop (mkF m 19 #[vI p1, vI p2, vI p3, vI v1, .unset, .unset, .unset, .unset] [iI (p1 &&& (2147483647 : Int32)), iI (-1076)])) _
    refine XS.sipush X2.here hx rfl (hb hby at_19) ?_
    show Steps _ _ _ (T2.setTop (mkF m 22 #[vI p1, vI p2, vI p3, vI v1, .unset, .unset, .unset, .unset] [iI 2046, iI (p1 &&& (2147483647 : Int32)), iI (-1076)])) _
    refine iremM X2 hx rfl (hb hby at_22) rfl (by decide) ?_
    show Steps _ _ _ (T2.setTop (mkF m 23 #[vI p1, vI p2, vI p3, vI v1, .unset, .unset, .unset, .unset] [iI ((p1 &&& (2147483647 : Int32)) % (2046 : Int32)), iI (-1076)])) _
    refine XS.iadd X2.here hx rfl (hb hby at_23) rfl ?_
    show Steps _ _ _ (T2.setTop (mkF m 24 #[vI p1, vI p2, vI p3, vI v1, .unset, .unset, .unset, .unset] [iI ((-1076 : Int32) + ((p1 &&& (2147483647 : Int32)) % (2046 : Int32)))])) _
    refine XS.istore X2.here hx rfl (hb hby at_24) rfl (l' := #[vI p1, vI p2, vI p3, vI v1, vI ((-1076 : Int32) + ((p1 &&& (2147483647 : Int32)) % (2046 : Int32))), .unset, .unset, .unset]) rfl ?_
    show Steps _ _ _ (T2.setTop (mkF m 26 #[vI p1, vI p2, vI p3, vI v1, vI ((-1076 : Int32) + ((p1 &&& (2147483647 : Int32)) % (2046 : Int32))), .unset, .unset, .unset] [])) _
    refine XS.iload X2.here hx rfl (hb hby at_26) rfl ?_
    show Steps _ _ _ (T2.setTop (mkF m 28 #[vI p1, vI p2, vI p3, vI v1, vI ((-1076 : Int32) + ((p1 &&& (2147483647 : Int32)) % (2046 : Int32))), .unset, .unset, .unset] [iI ((-1076 : Int32) + ((p1 &&& (2147483647 : Int32)) % (2046 : Int32)))])) _
    refine XS.iloadN X2.here hx rfl (hb hby at_28) rfl ?_
    show Steps _ _ _ (T2.setTop (mkF m 29 #[vI p1, vI p2, vI p3, vI v1, vI ((-1076 : Int32) + ((p1 &&& (2147483647 : Int32)) % (2046 : Int32))), .unset, .unset, .unset] [iI v1, iI ((-1076 : Int32) + ((p1 &&& (2147483647 : Int32)) % (2046 : Int32)))])) _
    refine st4 _ ?_
    show Steps _ _ _ (T4.setTop (mkF m 32 #[vI p1, vI p2, vI p3, vI v1, vI ((-1076 : Int32) + ((p1 &&& (2147483647 : Int32)) % (2046 : Int32))), .unset, .unset, .unset] [iI (own_fl ((-1076 : Int32) + ((p1 &&& (2147483647 : Int32)) % (2046 : Int32))) v1)])) _
    refine XS.istore X4.here hx rfl (hb hby at_32) rfl (l' := #[vI p1, vI p2, vI p3, vI v1, vI ((-1076 : Int32) + ((p1 &&& (2147483647 : Int32)) % (2046 : Int32))), vI (own_fl ((-1076 : Int32) + ((p1 &&& (2147483647 : Int32)) % (2046 : Int32))) v1), .unset, .unset]) rfl ?_
    show Steps _ _ _ (T4.setTop (mkF m 34 #[vI p1, vI p2, vI p3, vI v1, vI ((-1076 : Int32) + ((p1 &&& (2147483647 : Int32)) % (2046 : Int32))), vI (own_fl ((-1076 : Int32) + ((p1 &&& (2147483647 : Int32)) % (2046 : Int32))) v1), .unset, .unset] [])) _
    refine XS.bipush X4.here hx rfl (hb hby at_34) ?_
    show Steps _ _ _ (T4.setTop (mkF m 36 #[vI p1, vI p2, vI p3, vI v1, vI ((-1076 : Int32) + ((p1 &&& (2147483647 : Int32)) % (2046 : Int32))), vI (own_fl ((-1076 : Int32) + ((p1 &&& (2147483647 : Int32)) % (2046 : Int32))) v1), .unset, .unset] [iI (-59)])) _
    refine XS.iloadN X4.here hx rfl (hb hby at_36) rfl ?_
    show Steps _ _ _ (T4.setTop (mkF m 37 #[vI p1, vI p2, vI p3, vI v1, vI ((-1076 : Int32) + ((p1 &&& (2147483647 : Int32)) % (2046 : Int32))), vI (own_fl ((-1076 : Int32) + ((p1 &&& (2147483647 : Int32)) % (2046 : Int32))) v1), .unset, .unset] [iI p3, iI (-59)])) _
    refine X4.ldcInt hx hown (mvT hZ (hw _ (List.mem_of_getElem? (i := 0) rfl))) (g := (mkF m 37 #[vI p1, vI p2, vI p3, vI v1, vI ((-1076 : Int32) + ((p1 &&& (2147483647 : Int32)) % (2046 : Int32))), vI (own_fl ((-1076 : Int32) + ((p1 &&& (2147483647 : Int32)) % (2046 : Int32))) v1), .unset, .unset] [iI p3, iI (-59)])) rfl (hb hby at_37) _ ?_
    show Steps _ _ _ (T4.setTop (mkF m 39 #[vI p1, vI p2, vI p3, vI v1, vI ((-1076 : Int32) + ((p1 &&& (2147483647 : Int32)) % (2046 : Int32))), vI (own_fl ((-1076 : Int32) + ((p1 &&& (2147483647 : Int32)) % (2046 : Int32))) v1), .unset, .unset] [iI 2147483647, iI p3, iI (-59)])) _
    refine XS.iand X4.here hx rfl (hb hby at_39) rfl ?_
    show Steps _ _ _ (T4.setTop (mkF m 40 #[vI p1, vI p2, vI p3, vI v1, vI ((-1076 : Int32) + ((p1 &&& (2147483647 : Int32)) % (2046 : Int32))), vI (own_fl ((-1076 : Int32) + ((p1 &&& (2147483647 : Int32)) % (2046 : Int32))) v1), .unset, .unset] [iI (p3 &&& (2147483647 : Int32)), iI (-59)])) _
    refine XS.bipush X4.here hx rfl (hb hby at_40) ?_
    show Steps _ _ _ (T4.setTop (mkF m 42 #[vI p1, vI p2, vI p3, vI v1, vI ((-1076 : Int32) + ((p1 &&& (2147483647 : Int32)) % (2046 : Int32))), vI (own_fl ((-1076 : Int32) + ((p1 &&& (2147483647 : Int32)) % (2046 : Int32))) v1), .unset, .unset] [iI 120, iI (p3 &&& (2147483647 : Int32)), iI (-59)])) _
    refine iremM X4 hx rfl (hb hby at_42) rfl (by decide) ?_
    show Steps _ _ _ (T4.setTop (mkF m 43 #[vI p1, vI p2, vI p3, vI v1, vI ((-1076 : Int32) + ((p1 &&& (2147483647 : Int32)) % (2046 : Int32))), vI (own_fl ((-1076 : Int32) + ((p1 &&& (2147483647 : Int32)) % (2046 : Int32))) v1), .unset, .unset] [iI ((p3 &&& (2147483647 : Int32)) % (120 : Int32)), iI (-59)])) _
    refine XS.iadd X4.here hx rfl (hb hby at_43) rfl ?_
    show Steps _ _ _ (T4.setTop (mkF m 44 #[vI p1, vI p2, vI p3, vI v1, vI ((-1076 : Int32) + ((p1 &&& (2147483647 : Int32)) % (2046 : Int32))), vI (own_fl ((-1076 : Int32) + ((p1 &&& (2147483647 : Int32)) % (2046 : Int32))) v1), .unset, .unset] [iI ((-59 : Int32) + ((p3 &&& (2147483647 : Int32)) % (120 : Int32)))])) _
    refine XS.istore X4.here hx rfl (hb hby at_44) rfl (l' := #[vI p1, vI p2, vI p3, vI v1, vI ((-1076 : Int32) + ((p1 &&& (2147483647 : Int32)) % (2046 : Int32))), vI (own_fl ((-1076 : Int32) + ((p1 &&& (2147483647 : Int32)) % (2046 : Int32))) v1), vI ((-59 : Int32) + ((p3 &&& (2147483647 : Int32)) % (120 : Int32))), .unset]) rfl ?_
    show Steps _ _ _ (T4.setTop (mkF m 46 #[vI p1, vI p2, vI p3, vI v1, vI ((-1076 : Int32) + ((p1 &&& (2147483647 : Int32)) % (2046 : Int32))), vI (own_fl ((-1076 : Int32) + ((p1 &&& (2147483647 : Int32)) % (2046 : Int32))) v1), vI ((-59 : Int32) + ((p3 &&& (2147483647 : Int32)) % (120 : Int32))), .unset] [])) _
    refine XS.iload X4.here hx rfl (hb hby at_46) rfl ?_
    show Steps _ _ _ (T4.setTop (mkF m 48 #[vI p1, vI p2, vI p3, vI v1, vI ((-1076 : Int32) + ((p1 &&& (2147483647 : Int32)) % (2046 : Int32))), vI (own_fl ((-1076 : Int32) + ((p1 &&& (2147483647 : Int32)) % (2046 : Int32))) v1), vI ((-59 : Int32) + ((p3 &&& (2147483647 : Int32)) % (120 : Int32))), .unset] [iI ((-59 : Int32) + ((p3 &&& (2147483647 : Int32)) % (120 : Int32)))])) _
    refine XS.iloadN X4.here hx rfl (hb hby at_48) rfl ?_
    show Steps _ _ _ (T4.setTop (mkF m 49 #[vI p1, vI p2, vI p3, vI v1, vI ((-1076 : Int32) + ((p1 &&& (2147483647 : Int32)) % (2046 : Int32))), vI (own_fl ((-1076 : Int32) + ((p1 &&& (2147483647 : Int32)) % (2046 : Int32))) v1), vI ((-59 : Int32) + ((p3 &&& (2147483647 : Int32)) % (120 : Int32))), .unset] [iI v1, iI ((-59 : Int32) + ((p3 &&& (2147483647 : Int32)) % (120 : Int32)))])) _
    refine st5 _ ?_
    show Steps _ _ _ (T5.setTop (mkF m 52 #[vI p1, vI p2, vI p3, vI v1, vI ((-1076 : Int32) + ((p1 &&& (2147483647 : Int32)) % (2046 : Int32))), vI (own_fl ((-1076 : Int32) + ((p1 &&& (2147483647 : Int32)) % (2046 : Int32))) v1), vI ((-59 : Int32) + ((p3 &&& (2147483647 : Int32)) % (120 : Int32))), .unset] [iI (own_fl ((-59 : Int32) + ((p3 &&& (2147483647 : Int32)) % (120 : Int32))) v1)])) _
    refine XS.istore X5.here hx rfl (hb hby at_52) rfl (l' := #[vI p1, vI p2, vI p3, vI v1, vI ((-1076 : Int32) + ((p1 &&& (2147483647 : Int32)) % (2046 : Int32))), vI (own_fl ((-1076 : Int32) + ((p1 &&& (2147483647 : Int32)) % (2046 : Int32))) v1), vI ((-59 : Int32) + ((p3 &&& (2147483647 : Int32)) % (120 : Int32))), vI (own_fl ((-59 : Int32) + ((p3 &&& (2147483647 : Int32)) % (120 : Int32))) v1)]) rfl ?_
    show Steps _ _ _ (T5.setTop (mkF m 54 #[vI p1, vI p2, vI p3, vI v1, vI ((-1076 : Int32) + ((p1 &&& (2147483647 : Int32)) % (2046 : Int32))), vI (own_fl ((-1076 : Int32) + ((p1 &&& (2147483647 : Int32)) % (2046 : Int32))) v1), vI ((-59 : Int32) + ((p3 &&& (2147483647 : Int32)) % (120 : Int32))), vI (own_fl ((-59 : Int32) + ((p3 &&& (2147483647 : Int32)) % (120 : Int32))) v1)] [])) _
    refine XS.iload X5.here hx rfl (hb hby at_54) rfl ?_
    show Steps _ _ _ (T5.setTop (mkF m 56 #[vI p1, vI p2, vI p3, vI v1, vI ((-1076 : Int32) + ((p1 &&& (2147483647 : Int32)) % (2046 : Int32))), vI (own_fl ((-1076 : Int32) + ((p1 &&& (2147483647 : Int32)) % (2046 : Int32))) v1), vI ((-59 : Int32) + ((p3 &&& (2147483647 : Int32)) % (120 : Int32))), vI (own_fl ((-59 : Int32) + ((p3 &&& (2147483647 : Int32)) % (120 : Int32))) v1)] [iI ((-1076 : Int32) + ((p1 &&& (2147483647 : Int32)) % (2046 : Int32)))])) _
    refine XS.iloadN X5.here hx rfl (hb hby at_56) rfl ?_
    show Steps _ _ _ (T5.setTop (mkF m 57 #[vI p1, vI p2, vI p3, vI v1, vI ((-1076 : Int32) + ((p1 &&& (2147483647 : Int32)) % (2046 : Int32))), vI (own_fl ((-1076 : Int32) + ((p1 &&& (2147483647 : Int32)) % (2046 : Int32))) v1), vI ((-59 : Int32) + ((p3 &&& (2147483647 : Int32)) % (120 : Int32))), vI (own_fl ((-59 : Int32) + ((p3 &&& (2147483647 : Int32)) % (120 : Int32))) v1)] [iI v1, iI ((-1076 : Int32) + ((p1 &&& (2147483647 : Int32)) % (2046 : Int32)))])) _
    refine XS.iload X5.here hx rfl (hb hby at_57) rfl ?_
    show Steps _ _ _ (T5.setTop (mkF m 59 #[vI p1, vI p2, vI p3, vI v1, vI ((-1076 : Int32) + ((p1 &&& (2147483647 : Int32)) % (2046 : Int32))), vI (own_fl ((-1076 : Int32) + ((p1 &&& (2147483647 : Int32)) % (2046 : Int32))) v1), vI ((-59 : Int32) + ((p3 &&& (2147483647 : Int32)) % (120 : Int32))), vI (own_fl ((-59 : Int32) + ((p3 &&& (2147483647 : Int32)) % (120 : Int32))) v1)] [iI (own_fl ((-1076 : Int32) + ((p1 &&& (2147483647 : Int32)) % (2046 : Int32))) v1), iI v1, iI ((-1076 : Int32) + ((p1 &&& (2147483647 : Int32)) % (2046 : Int32)))])) _
    refine st6 _ ?_
    show Steps _ _ _ (T6.setTop (mkF m 62 #[vI p1, vI p2, vI p3, vI v1, vI ((-1076 : Int32) + ((p1 &&& (2147483647 : Int32)) % (2046 : Int32))), vI (own_fl ((-1076 : Int32) + ((p1 &&& (2147483647 : Int32)) % (2046 : Int32))) v1), vI ((-59 : Int32) + ((p3 &&& (2147483647 : Int32)) % (120 : Int32))), vI (own_fl ((-59 : Int32) + ((p3 &&& (2147483647 : Int32)) % (120 : Int32))) v1)] [iI (own_sand ((-1076 : Int32) + ((p1 &&& (2147483647 : Int32)) % (2046 : Int32))) v1 (own_fl ((-1076 : Int32) + ((p1 &&& (2147483647 : Int32)) % (2046 : Int32))) v1))])) _
    refine XS.ifNo X6.here hx rfl (hb hby at_62) rfl ((if0 _ _).trans (feq hh7).1) ?_
    show Steps _ _ _ (T6.setTop (mkF m 65 #[vI p1, vI p2, vI p3, vI v1, vI ((-1076 : Int32) + ((p1 &&& (2147483647 : Int32)) % (2046 : Int32))), vI (own_fl ((-1076 : Int32) + ((p1 &&& (2147483647 : Int32)) % (2046 : Int32))) v1), vI ((-59 : Int32) + ((p3 &&& (2147483647 : Int32)) % (120 : Int32))), vI (own_fl ((-59 : Int32) + ((p3 &&& (2147483647 : Int32)) % (120 : Int32))) v1)] [])) _
    refine XS.iload X6.here hx rfl (hb hby at_65) rfl ?_
    show Steps _ _ _ (T6.setTop (mkF m 67 #[vI p1, vI p2, vI p3, vI v1, vI ((-1076 : Int32) + ((p1 &&& (2147483647 : Int32)) % (2046 : Int32))), vI (own_fl ((-1076 : Int32) + ((p1 &&& (2147483647 : Int32)) % (2046 : Int32))) v1), vI ((-59 : Int32) + ((p3 &&& (2147483647 : Int32)) % (120 : Int32))), vI (own_fl ((-59 : Int32) + ((p3 &&& (2147483647 : Int32)) % (120 : Int32))) v1)] [iI ((-59 : Int32) + ((p3 &&& (2147483647 : Int32)) % (120 : Int32)))])) _
    refine XS.iloadN X6.here hx rfl (hb hby at_67) rfl ?_
    show Steps _ _ _ (T6.setTop (mkF m 68 #[vI p1, vI p2, vI p3, vI v1, vI ((-1076 : Int32) + ((p1 &&& (2147483647 : Int32)) % (2046 : Int32))), vI (own_fl ((-1076 : Int32) + ((p1 &&& (2147483647 : Int32)) % (2046 : Int32))) v1), vI ((-59 : Int32) + ((p3 &&& (2147483647 : Int32)) % (120 : Int32))), vI (own_fl ((-59 : Int32) + ((p3 &&& (2147483647 : Int32)) % (120 : Int32))) v1)] [iI v1, iI ((-59 : Int32) + ((p3 &&& (2147483647 : Int32)) % (120 : Int32)))])) _
    refine XS.iload X6.here hx rfl (hb hby at_68) rfl ?_
    show Steps _ _ _ (T6.setTop (mkF m 70 #[vI p1, vI p2, vI p3, vI v1, vI ((-1076 : Int32) + ((p1 &&& (2147483647 : Int32)) % (2046 : Int32))), vI (own_fl ((-1076 : Int32) + ((p1 &&& (2147483647 : Int32)) % (2046 : Int32))) v1), vI ((-59 : Int32) + ((p3 &&& (2147483647 : Int32)) % (120 : Int32))), vI (own_fl ((-59 : Int32) + ((p3 &&& (2147483647 : Int32)) % (120 : Int32))) v1)] [iI (own_fl ((-59 : Int32) + ((p3 &&& (2147483647 : Int32)) % (120 : Int32))) v1), iI v1, iI ((-59 : Int32) + ((p3 &&& (2147483647 : Int32)) % (120 : Int32)))])) _
    refine st8 _ ?_
    show Steps _ _ _ (T8.setTop (mkF m 73 #[vI p1, vI p2, vI p3, vI v1, vI ((-1076 : Int32) + ((p1 &&& (2147483647 : Int32)) % (2046 : Int32))), vI (own_fl ((-1076 : Int32) + ((p1 &&& (2147483647 : Int32)) % (2046 : Int32))) v1), vI ((-59 : Int32) + ((p3 &&& (2147483647 : Int32)) % (120 : Int32))), vI (own_fl ((-59 : Int32) + ((p3 &&& (2147483647 : Int32)) % (120 : Int32))) v1)] [iI (own_ex ((-59 : Int32) + ((p3 &&& (2147483647 : Int32)) % (120 : Int32))) v1 (own_fl ((-59 : Int32) + ((p3 &&& (2147483647 : Int32)) % (120 : Int32))) v1))])) _
    refine XS.ifNo X8.here hx rfl (hb hby at_73) rfl ((if0 _ _).trans (feq hh9).1) ?_
    show Steps _ _ _ (T8.setTop (mkF m 76 #[vI p1, vI p2, vI p3, vI v1, vI ((-1076 : Int32) + ((p1 &&& (2147483647 : Int32)) % (2046 : Int32))), vI (own_fl ((-1076 : Int32) + ((p1 &&& (2147483647 : Int32)) % (2046 : Int32))) v1), vI ((-59 : Int32) + ((p3 &&& (2147483647 : Int32)) % (120 : Int32))), vI (own_fl ((-59 : Int32) + ((p3 &&& (2147483647 : Int32)) % (120 : Int32))) v1)] [])) _
    refine XS.iconst X8.here hx rfl (hb hby at_76) ?_
    show Steps _ _ _ (T8.setTop (mkF m 77 #[vI p1, vI p2, vI p3, vI v1, vI ((-1076 : Int32) + ((p1 &&& (2147483647 : Int32)) % (2046 : Int32))), vI (own_fl ((-1076 : Int32) + ((p1 &&& (2147483647 : Int32)) % (2046 : Int32))) v1), vI ((-59 : Int32) + ((p3 &&& (2147483647 : Int32)) % (120 : Int32))), vI (own_fl ((-59 : Int32) + ((p3 &&& (2147483647 : Int32)) % (120 : Int32))) v1)] [iI 1])) _
    refine XS.goto X8.here hx rfl (pc0 := 77) (pc' := 81) rfl (hb hby at_77) (by decide) (by decide) ?_
    show Steps _ _ _ (T8.setTop (mkF m 81 #[vI p1, vI p2, vI p3, vI v1, vI ((-1076 : Int32) + ((p1 &&& (2147483647 : Int32)) % (2046 : Int32))), vI (own_fl ((-1076 : Int32) + ((p1 &&& (2147483647 : Int32)) % (2046 : Int32))) v1), vI ((-59 : Int32) + ((p3 &&& (2147483647 : Int32)) % (120 : Int32))), vI (own_fl ((-59 : Int32) + ((p3 &&& (2147483647 : Int32)) % (120 : Int32))) v1)] [iI 1])) _
    exact retN X8 hx (t := .boolean) Bd.returns (by simp) (hb hby at_81) hr
  · show Q0 Z p1 p2 p3 h0 n0 _ T8.heap _
    exact ⟨rfl, N8⟩
set_option maxRecDepth 65536 in
set_option maxHeartbeats 40000000 in
theorem comes_1 {Post : Tables → Env → Array Value → State → Outcome → State → Prop} (hpost : ∀ tb e args s v u, (limb_1_1.after args s (.returned v) u = true ∧ limb_1_2.after args s (.returned v) u = true ∧ True) → FrameEnd s (.returned v) u (Jvm.fieldLocs frame_1_writes args s ++ Jvm.arrayLocs frame_1_arrays args s ++ Jvm.staticLocs frame_1_statics s) 16 128 → Post tb e args s (.returned v) u) :
    ArmFor flags0 classFile x code maxLocals ret World_1 tables_1 room_1 Calls_1 rest_1 Pre_1 Post := by
  intro l hfl _ _ p e ha hc hk s m args below hf hA hF happ hP
  obtain ⟨hcalls, hrest, hpre⟩ := hP
  obtain ⟨-, -, -, hnamed, -, -, -, hat⟩ := (Spec.applies_iff hf).mp happ
  obtain ⟨hg, hn⟩ := and_e (Cond.before_iff.mp (show (Jvm.Cond.and given_1 narrow_1).before args s = true from hpre))
  obtain ⟨gc, gr0⟩ := and_e hg
  obtain ⟨ga0, gr1⟩ := and_e gr0
  obtain ⟨ga1, gr2⟩ := and_e gr1
  obtain ⟨w0, w1, w2, rfl⟩ : ∃ w0 w1 w2 : Value, args = #[w0, w1, w2] := by
    have hs : args.size = 3 := by simpa [Cond.value, given_1] using gc
    obtain ⟨L⟩ := args
    match L, hs with
    | [w0, w1, w2], _ => exact ⟨w0, w1, w2, rfl⟩
  have hw := fun d (hd : d ∈ tables_1) => atoms_spec (ws := Jvm.Cond.code x code maxLocals ret :: tables_1) hat d (List.mem_cons_of_mem _ hd)
  have hfit : Fit s := fun {y c} hc i hi => by
    obtain ⟨ha, rfl⟩ := Array.getElem?_eq_some_iff.mp hc
    have q := List.all_eq_true.mp ((Array.all_eq_true_iff_forall_mem.mp hF) _ (Array.getElem_mem ha)) i (List.mem_range.mpr hi)
    simpa [Array.getElem?_eq_getElem hi] using q
  obtain ⟨i0, ei0⟩ := is_v ga0
  obtain rfl : w0 = (.int i0) := Option.some.inj ei0
  obtain ⟨i1, ei1⟩ := is_v ga1
  obtain rfl : w1 = (.int i1) := Option.some.inj ei1
  obtain ⟨i2, ei2⟩ := is_v gr2
  obtain rfl : w2 = (.int i2) := Option.some.inj ei2
  obtain ⟨n, o, h1, h2, h3, _, L, rfl, Qv, hq⟩ := rm0 l s _ hw tables_1 i0 i1 i2  s.heap s.heap.size (Nat.le_refl _)  p e ha hc hk s m _ below hf ((Spec.applies_iff_loose hf).mp happ).1 ⟨rfl, State.Warmed39.refl s, rfl⟩ trivial
  obtain ⟨rfl, N⟩ := Qv
  refine ⟨n, _, h1, h2, h3, hpost _ _ _ _ _ _ ⟨Cond.after_iff.mpr rfl, Cond.after_iff.mpr (eq_i res_at (Term.int_eval (1)) rfl), trivial⟩ ⟨hq.1, hq.2.1, (hq.2.2.sift fun y hy => Or.inr (N y hy)).mono (by decide) (by decide)⟩⟩
theorem main_1_1 : Claimed_1_1 := comes_1 fun _ _ _ _ _ _ h hF => ⟨h.1, hF⟩
theorem main_1_2 : Claimed_1_2 := comes_1 fun _ _ _ _ _ _ h hF => ⟨h.2.1, hF⟩
end Jvm.Pilot.@@N@@
namespace Jvm.Pilot.@@N@@
open Jvm Jvm.ClassFile Sem Op Lib Jvm.Free Jvm.Stand Jvm.Pilot.@@N@@.Jvm.D
/-! MADE BY PROGRAM (witnessworld.py) out of the Statement's table words and the real class files: 12 classes; the members and pool entries that the words name. The judged class is class 1, her method 1. -/
namespace start1
open Jvm.ClassFile
def u (s : String) : CpInfo := .utf8 (stringToUtf16 s)
/-- a pool by its gaps: so many unusable entries, then the entry; so many at the end -/
def gap : Nat → List CpInfo → List CpInfo
  | 0, r => r
  | n + 1, r => .unusable :: gap n r
def poolList (es : List (Nat × CpInfo)) (last : Nat) : List CpInfo := es.foldr (fun e r => gap e.1 (e.2 :: r)) (gap last [])
def pool (es : List (Nat × CpInfo)) (last : Nat) : Array CpInfo := ⟨poolList es last⟩
def fileOf (pool : Array CpInfo) (this : Nat) (attrs : Array Attribute := #[]) (ms : Array MethodInfo := #[]) (fl : Nat := 33) (sup : Nat := 0) (ifs : Array Nat := #[]) (fds : Array FieldInfo := #[]) : ClassFile where
  minorVersion := 0
  majorVersion := 65
  constantPool := pool
  accessFlags := fl
  thisClass := this
  superClass := sup
  interfaces := ifs
  fields := fds
  methods := ms
  attributes := attrs
def plain (name : String) (sup : Option ClassId) : Class where
  name := name
  kind := .ordinary
  loader := none
  accessFlags := 33
  super := sup
  interfaces := #[]
  cf := none
  fields := #[]
  methods := #[]
  instanceTypes := #[]
  staticTypes := #[]
  resolved := #[]
  callSites := []
  init := .initialized
  statics := none
  mirror := none

def pool0 : Array CpInfo := pool [(5, u "<init>"), (0, u "()V"), (1, .class_ 10), (1, u "java/lang/Object")] 113

def k0m0 : Method := { name := "<init>", desc := "()V", sig := { parameters := [], returnType := none }, accessFlags := 1, code := none }
/-- java/lang/Object -/
def k0 : Class := { plain "java/lang/Object" none with
  accessFlags := 33
  interfaces := #[]
  cf := some (fileOf pool0 8 #[] #[{ accessFlags := 1, nameIndex := 5, descriptorIndex := 6, attributes := #[] }] 33 0 #[] #[])
  fields := #[]
  methods := #[k0m0]
  instanceTypes := #[]
  staticTypes := #[]
  resolved := Array.replicate 124 none
  statics := none }

def pool1 : Array CpInfo := pool [(2, .class_ 4), (1, u "java/lang/Object"), (0, u "<init>"), (0, u "()V"), (0, .integer 2147483647), (0, .methodref 9 10), (0, .class_ 11), (0, .nameAndType 12 13), (0, u "com/example/plainjson/plainjson/JsonNumber"), (0, u "floorLog10"), (0, u "(IZ)I"), (0, .methodref 15 16), (0, .class_ 17), (0, .nameAndType 18 19), (0, u "com/example/plainjson/plainjson/JsonNumberFloorLog10PinLaw"), (0, u "sandwich"), (0, u "(IZI)Z"), (0, .methodref 15 21), (0, .nameAndType 22 19), (0, u "exact"), (0, .long 661971961083), (1, .long 1049200734846), (1, .long 2), (1, .long 3), (1, .long 4), (1, .long 10), (1, .long 100), (1, .long 1000), (1, .long 10000), (1, .long 100000), (1, .long 1000000), (1, .long 10000000), (1, .long 100000000), (1, .long 1000000000), (1, .long 10000000000), (1, .long 100000000000), (1, .long 1000000000000), (1, .long 10000000000000), (1, .long 100000000000000), (1, .long 1000000000000000), (1, .long 10000000000000000), (1, .long 100000000000000000), (1, .long 1000000000000000000), (3, u "law"), (0, u "(III)Z")] 5

def k1m0 : Method := { name := "<init>", desc := "()V", sig := { parameters := [], returnType := none }, accessFlags := 2, code := none }
def k1c1 : Code := { maxStack := 3, maxLocals := 8, code := code, exceptionTable := #[], attributes := #[] }
def k1m1 : Method := { name := "law", desc := "(III)Z", sig := { parameters := [.int, .int, .int], returnType := some .boolean }, accessFlags := 9, code := some k1c1 }
def k1c2 : Code := { maxStack := 6, maxLocals := 13, code := method_3_code, exceptionTable := #[], attributes := #[] }
def k1m2 : Method := { name := "sandwich", desc := "(IZI)Z", sig := { parameters := [.int, .boolean, .int], returnType := some .boolean }, accessFlags := 10, code := some k1c2 }
def k1c3 : Code := { maxStack := 6, maxLocals := 9, code := method_4_code, exceptionTable := #[], attributes := #[] }
def k1m3 : Method := { name := "exact", desc := "(IZI)Z", sig := { parameters := [.int, .boolean, .int], returnType := some .boolean }, accessFlags := 10, code := some k1c3 }
/-- com/example/plainjson/plainjson/JsonNumberFloorLog10PinLaw -/
def k1 : Class := { plain "com/example/plainjson/plainjson/JsonNumberFloorLog10PinLaw" (some 0) with
  accessFlags := 49
  interfaces := #[]
  cf := some (fileOf pool1 15 #[] #[{ accessFlags := 2, nameIndex := 5, descriptorIndex := 6, attributes := #[] }, { accessFlags := 9, nameIndex := 71, descriptorIndex := 72, attributes := #[] }, { accessFlags := 10, nameIndex := 18, descriptorIndex := 19, attributes := #[] }, { accessFlags := 10, nameIndex := 22, descriptorIndex := 19, attributes := #[] }] 49 2 #[] #[])
  fields := #[]
  methods := #[k1m0, k1m1, k1m2, k1m3]
  instanceTypes := #[]
  staticTypes := #[]
  resolved := Array.replicate 78 none
  statics := none }

def pool2 : Array CpInfo := pool [(1, .class_ 2), (0, u "java/io/Serializable"), (0, .class_ 4), (0, u "java/lang/Object")] 2

/-- java/io/Serializable -/
def k2 : Class := { plain "java/io/Serializable" (some 0) with
  accessFlags := 1537
  interfaces := #[]
  cf := some (fileOf pool2 1 #[] #[] 1537 3 #[] #[])
  fields := #[]
  methods := #[]
  instanceTypes := #[]
  staticTypes := #[]
  resolved := Array.replicate 7 none
  statics := none }

def pool3 : Array CpInfo := pool [(2, .class_ 4), (1, u "java/lang/Object"), (0, u "<init>"), (0, u "()V"), (1, .class_ 10), (1, u "java/lang/Number"), (2, .class_ 14), (0, u "java/io/Serializable"), (0, u "serialVersionUID"), (0, u "J")] 20

def k3m0 : Method := { name := "<init>", desc := "()V", sig := { parameters := [], returnType := none }, accessFlags := 1, code := none }
/-- java/lang/Number -/
def k3 : Class := { plain "java/lang/Number" (some 0) with
  accessFlags := 1057
  interfaces := #[2]
  cf := some (fileOf pool3 8 #[] #[{ accessFlags := 1, nameIndex := 5, descriptorIndex := 6, attributes := #[] }] 1057 2 #[13] #[{ accessFlags := 26, nameIndex := 15, descriptorIndex := 16, attributes := #[] }])
  fields := #[{ name := "serialVersionUID", type := .long, accessFlags := 26, slot := 0, constantValue := 0 }]
  methods := #[k3m0]
  instanceTypes := #[]
  staticTypes := #[.long]
  resolved := Array.replicate 37 none
  statics := none }

def pool4 : Array CpInfo := pool [(1, .class_ 2), (0, u "com/example/plainjson/plainjson/JsonNumber"), (1, .class_ 6), (1, u "java/lang/Number"), (4, u "packed"), (0, u "J"), (2, u "text"), (0, u "Ljava/lang/String;"), (26, u "PACK_CODES"), (0, u "[B"), (201, .class_ 247), (0, u "com/example/plainjson/plainjson/JsonNumber$Serialized"), (94, u "floorLog10"), (0, u "(IZ)I"), (0, .class_ 345), (0, u "com/example/plainjson/plainjson/JsonNumber$Scale"), (18, .long 661971961083), (1, .long 1049200734846), (1, .long 1323943922166), (11, u "serialVersionUID"), (3, u "LOG10_2"), (0, u "LOG10_3"), (0, u "MOST_DIGITS"), (0, u "I"), (0, u "LONG_DIGITS"), (1, u "HUGE_EXPONENT"), (0, u "MOST_ZEROS"), (1, u "TOO_MANY_ZEROS"), (2, u "PACKED_LENGTH"), (1, u "PACKED_CHARS"), (0, u "LEAST_PACKED"), (0, u "C")] 66

def k4c0 : Code := { maxStack := 4, maxLocals := 2, code := prog_12_method_37_code, exceptionTable := #[], attributes := #[] }
def k4m0 : Method := { name := "floorLog10", desc := "(IZ)I", sig := { parameters := [.int, .boolean], returnType := some .int }, accessFlags := 8, code := some k4c0 }
/-- com/example/plainjson/plainjson/JsonNumber -/
def k4 : Class := { plain "com/example/plainjson/plainjson/JsonNumber" (some 3) with
  accessFlags := 49
  interfaces := #[]
  cf := some (fileOf pool4 1 #[.nestMembers #[344, 246]] #[{ accessFlags := 8, nameIndex := 342, descriptorIndex := 343, attributes := #[] }] 49 4 #[] #[{ accessFlags := 26, nameIndex := 380, descriptorIndex := 12, attributes := #[] }, { accessFlags := 26, nameIndex := 384, descriptorIndex := 12, attributes := #[] }, { accessFlags := 26, nameIndex := 385, descriptorIndex := 12, attributes := #[] }, { accessFlags := 26, nameIndex := 386, descriptorIndex := 387, attributes := #[] }, { accessFlags := 26, nameIndex := 388, descriptorIndex := 387, attributes := #[] }, { accessFlags := 26, nameIndex := 390, descriptorIndex := 12, attributes := #[] }, { accessFlags := 26, nameIndex := 391, descriptorIndex := 387, attributes := #[] }, { accessFlags := 26, nameIndex := 393, descriptorIndex := 16, attributes := #[] }, { accessFlags := 26, nameIndex := 396, descriptorIndex := 387, attributes := #[] }, { accessFlags := 26, nameIndex := 398, descriptorIndex := 16, attributes := #[] }, { accessFlags := 26, nameIndex := 399, descriptorIndex := 400, attributes := #[] }, { accessFlags := 26, nameIndex := 43, descriptorIndex := 44, attributes := #[] }, { accessFlags := 18, nameIndex := 11, descriptorIndex := 12, attributes := #[] }, { accessFlags := 18, nameIndex := 15, descriptorIndex := 16, attributes := #[] }])
  fields := #[{ name := "serialVersionUID", type := .long, accessFlags := 26, slot := 0, constantValue := 0 }, { name := "LOG10_2", type := .long, accessFlags := 26, slot := 1, constantValue := 0 }, { name := "LOG10_3", type := .long, accessFlags := 26, slot := 2, constantValue := 0 }, { name := "MOST_DIGITS", type := .int, accessFlags := 26, slot := 3, constantValue := 0 }, { name := "LONG_DIGITS", type := .int, accessFlags := 26, slot := 4, constantValue := 0 }, { name := "HUGE_EXPONENT", type := .long, accessFlags := 26, slot := 5, constantValue := 0 }, { name := "MOST_ZEROS", type := .int, accessFlags := 26, slot := 6, constantValue := 0 }, { name := "TOO_MANY_ZEROS", type := (.object "java/lang/String"), accessFlags := 26, slot := 7, constantValue := 0 }, { name := "PACKED_LENGTH", type := .int, accessFlags := 26, slot := 8, constantValue := 0 }, { name := "PACKED_CHARS", type := (.object "java/lang/String"), accessFlags := 26, slot := 9, constantValue := 0 }, { name := "LEAST_PACKED", type := .char, accessFlags := 26, slot := 10, constantValue := 0 }, { name := "PACK_CODES", type := (.array .byte), accessFlags := 26, slot := 11, constantValue := 0 }, { name := "packed", type := .long, accessFlags := 18, slot := 0, constantValue := 0 }, { name := "text", type := (.object "java/lang/String"), accessFlags := 18, slot := 1, constantValue := 0 }]
  methods := #[k4m0]
  instanceTypes := #[.long, (.object "java/lang/String")]
  staticTypes := #[.long, .long, .long, .int, .int, .long, .int, (.object "java/lang/String"), .int, (.object "java/lang/String"), .char, (.array .byte)]
  resolved := Array.replicate 467 none
  statics := none }

def pool5 : Array CpInfo := pool [(1, u "java/lang/Cloneable"), (0, .class_ 1), (0, u "java/lang/Object"), (0, .class_ 3)] 3

/-- java/lang/Cloneable -/
def k5 : Class := { plain "java/lang/Cloneable" (some 0) with
  accessFlags := 1537
  interfaces := #[]
  cf := some (fileOf pool5 2 #[] #[] 1537 4 #[] #[])
  fields := #[]
  methods := #[]
  instanceTypes := #[]
  staticTypes := #[]
  resolved := Array.replicate 8 none
  statics := none }

/-- the primitive byte -/
def k6 : Class := { plain "byte" none with kind := .primitive 'B', accessFlags := 0x411 }
/-- [B -/
def k7 : Class := { plain "[B" (some 0) with kind := .array 6 .byte, interfaces := #[5, 2], accessFlags := 1041 }

/-- the primitive int -/
def k8 : Class := { plain "int" none with kind := .primitive 'I', accessFlags := 0x411 }
/-- [I -/
def k9 : Class := { plain "[I" (some 0) with kind := .array 8 .int, interfaces := #[5, 2], accessFlags := 1041 }

/-- the primitive long -/
def k10 : Class := { plain "long" none with kind := .primitive 'J', accessFlags := 0x411 }
/-- [J -/
def k11 : Class := { plain "[J" (some 0) with kind := .array 10 .long, interfaces := #[5, 2], accessFlags := 1041 }

def heap : Heap := #[]
def classes : Array Class := #[k0, k1, k2, k3, k4, k5, k6, k7, k8, k9, k10, k11]
def interned : List (Array UInt16 × Addr) := []
def slotsUsed : Nat := 0
def theMethod : MethodId := ⟨1, 1⟩
def args0 : Array Value := #[.int 5, .int 1, .int 2]
def aboutOver (below : List Frame) : State where
  vm := { classes := classes, interned := interned.toArray }
  heap := heap
  slotsUsed := slotsUsed
  threads := #[{ frames := .invoking theMethod args0 :: below }]
def below0 : List Frame := [.native { method := ⟨0, 0⟩, args := #[] }]
def about1 : State := aboutOver below0
def p0 : Program := .bare "" "" ""
def e0 : Env := launch0.env 0 0 0
theorem w_frames : about1.frames = Frame.invoking theMethod args0 :: below0 := rfl
set_option maxRecDepth 65536 in
theorem w_args : argsFit about1.vm theMethod args0 = true := by decide +kernel
set_option maxRecDepth 65536 in
theorem w_heap : heapFits about1 = true := by decide +kernel
set_option maxRecDepth 65536 in
theorem w_runnable : about1.curStatus? = some .runnable := by decide +kernel
set_option maxRecDepth 65536 in
theorem w_alone : about1.alone = true := by decide +kernel
set_option maxRecDepth 65536 in
theorem w_named : about1.methodNamed? x = some theMethod := by decide +kernel
set_option maxRecDepth 65536 in
theorem w_hears : about1.hears theMethod below0 = true := by decide +kernel
set_option maxRecDepth 65536 in
theorem w_ripe : about1.ripe theMethod args0 below0 = true := by decide +kernel
theorem w_running : about1.status = .running := rfl
set_option maxRecDepth 65536 in
theorem w_room : about1.hasRoom e0.platform room_1 = true :=
  launch0.hasRoom_least _ room_1 (by decide +kernel) (by decide +kernel) (by decide +kernel) (by decide +kernel) (by decide +kernel) (by decide +kernel)
theorem allAtoms_all (ts : List Jvm.Cond) (a : Array Jvm.Value) (st : Jvm.State) : (allAtoms ts).before a st = ts.all (fun c => c.before a st) := by
  induction ts with
  | nil => rfl
  | cons c t ih =>
    show (Jvm.Cond.and c (allAtoms t)).before a st = _
    rw [Jvm.Cond.before_and, ih, List.all_cons]
def words1 : List Jvm.Cond := Jvm.Cond.code x code maxLocals ret :: tables_1
/-- a 'code' word, met by the world's own term for the bytes: nothing is compared byte by byte -/
theorem code_word {y : MethodName} {bytes : ByteArray} {mx : Nat} {rt : Option FieldType} {a : Array Value} {s : State} {m : MethodId} {meth : Method} {c : Code} (h1 : s.methodNamed? y = some m) (h2 : s.vm.method? m = some meth) (h3 : meth.code = some c) (h4 : c.code = bytes)
    (h5 : (c.maxLocals == mx && c.exceptionTable.isEmpty && decide (c.maxStack ≤ mostOperands) && decide (meth.sig.returnType = rt) && !meth.locks && decide (parseMethodDescriptor y.desc = some meth.sig)) = true) : (Jvm.Cond.code y bytes mx rt).before a s = true := by
  simp only [Bool.and_eq_true, beq_iff_eq, Bool.not_eq_true', decide_eq_true_eq] at h5
  obtain ⟨⟨⟨⟨⟨g1, g2⟩, g3⟩, g4⟩, g5⟩, g6⟩ := h5
  simp [Cond.before, Cond.holds, Cond.value, h1, h2, h3, h4, g1, g2, g3, g4, g5, g6]
def isCode : Jvm.Cond → Bool
  | .code _ _ _ _ => true
  | _ => false
theorem all_split {L : List Jvm.Cond} {P : Jvm.Cond → Bool} (h1 : L.all (fun c => isCode c || P c) = true) (h2 : ∀ c ∈ L.filter isCode, P c = true) : L.all P = true := by
  refine List.all_eq_true.mpr fun c hc => ?_
  have h := List.all_eq_true.mp h1 c hc
  rcases Bool.eq_false_or_eq_true (isCode c) with hi | hi
  · exact h2 c (List.mem_filter.mpr ⟨hc, hi⟩)
  · simpa [hi] using h
set_option maxRecDepth 65536 in
theorem w_c0 : (Jvm.Cond.code x code maxLocals ret).before args0 about1 = true := code_word (m := ⟨1, 1⟩) (meth := k1m1) (c := k1c1) (by decide +kernel) rfl rfl rfl (by decide +kernel)
set_option maxRecDepth 65536 in
theorem w_c1 : (Jvm.Cond.code ({ cls := "com/example/plainjson/plainjson/JsonNumber", name := "floorLog10", desc := "(IZ)I" } : Jvm.MethodName) prog_12_method_37_code (2 : Nat) (Option.some Jvm.ClassFile.FieldType.int)).before args0 about1 = true := code_word (m := ⟨4, 0⟩) (meth := k4m0) (c := k4c0) (by decide +kernel) rfl rfl rfl (by decide +kernel)
set_option maxRecDepth 65536 in
theorem w_c2 : (Jvm.Cond.code ({ cls := "com/example/plainjson/plainjson/JsonNumberFloorLog10PinLaw", name := "sandwich", desc := "(IZI)Z" } : Jvm.MethodName) method_3_code (13 : Nat) (Option.some Jvm.ClassFile.FieldType.boolean)).before args0 about1 = true := code_word (m := ⟨1, 2⟩) (meth := k1m2) (c := k1c2) (by decide +kernel) rfl rfl rfl (by decide +kernel)
set_option maxRecDepth 65536 in
theorem w_c3 : (Jvm.Cond.code ({ cls := "com/example/plainjson/plainjson/JsonNumberFloorLog10PinLaw", name := "exact", desc := "(IZI)Z" } : Jvm.MethodName) method_4_code (9 : Nat) (Option.some Jvm.ClassFile.FieldType.boolean)).before args0 about1 = true := code_word (m := ⟨1, 3⟩) (meth := k1m3) (c := k1c3) (by decide +kernel) rfl rfl rfl (by decide +kernel)
def codes1 : List Jvm.Cond := [Jvm.Cond.code x code maxLocals ret, Jvm.Cond.code ({ cls := "com/example/plainjson/plainjson/JsonNumber", name := "floorLog10", desc := "(IZ)I" } : Jvm.MethodName) prog_12_method_37_code (2 : Nat) (Option.some Jvm.ClassFile.FieldType.int), Jvm.Cond.code ({ cls := "com/example/plainjson/plainjson/JsonNumberFloorLog10PinLaw", name := "sandwich", desc := "(IZI)Z" } : Jvm.MethodName) method_3_code (13 : Nat) (Option.some Jvm.ClassFile.FieldType.boolean), Jvm.Cond.code ({ cls := "com/example/plainjson/plainjson/JsonNumberFloorLog10PinLaw", name := "exact", desc := "(IZI)Z" } : Jvm.MethodName) method_4_code (9 : Nat) (Option.some Jvm.ClassFile.FieldType.boolean)]
set_option maxRecDepth 65536 in
theorem codes_eq : words1.filter isCode = codes1 := rfl
theorem w_codes : ∀ c ∈ words1.filter isCode, c.before args0 about1 = true := by
  rw [codes_eq]
  intro c hc
  simp only [codes1, List.mem_cons, List.not_mem_nil, or_false] at hc
  rcases hc with rfl | rfl | rfl | rfl
  · exact w_c0
  · exact w_c1
  · exact w_c2
  · exact w_c3
set_option maxRecDepth 65536 in
theorem w_t1 : (words1.take 24).all (fun c => isCode c || c.before args0 about1) = true := by decide +kernel
set_option maxRecDepth 65536 in
theorem w_t2 : (words1.drop 24).all (fun c => isCode c || c.before args0 about1) = true := by decide +kernel
theorem w_tables : (allAtoms (Jvm.Cond.code x code maxLocals ret :: tables_1)).before args0 about1 = true := by
  rw [allAtoms_all]
  show words1.all (fun c => c.before args0 about1) = true
  refine all_split ?_ w_codes
  rw [← List.take_append_drop 24 words1, List.all_append, w_t1, w_t2]
  rfl
set_option maxRecDepth 65536 in
theorem w_case : (Jvm.Cond.and given_1 narrow_1).before args0 about1 = true := by decide +kernel
theorem w_applies : (headSpec (Jvm.Cond.code x code maxLocals ret :: tables_1) room_1).applies x e0.platform about1 = true :=
  (Spec.applies_iff w_frames).mpr ⟨w_running, w_runnable, w_alone, w_named, w_hears, w_ripe, w_room, w_tables⟩
theorem atStart : AtStart classFile x code maxLocals ret World_1 tables_1 room_1 Calls_1 rest_1 Pre_1 launch0 p0 e0 about1 theMethod args0 below0 :=
  ⟨lists_1, trivial, launch0.admits_env _ _ _, launch0.least_env, fairChoices_fair.cas, fairChoices_fair.clock, w_frames, w_args, w_heap, w_applies, trivial, trivial, w_case⟩
end start1
theorem witness_1 : WitnessClaimed_1 := ⟨start1.p0, start1.e0, start1.about1, start1.theMethod, start1.args0, start1.below0, start1.atStart⟩
end Jvm.Pilot.@@N@@
