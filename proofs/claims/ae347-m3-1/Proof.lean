import JvmDerived
import JvmDerived.Pilot.@@N@@Statement
import JvmDerived.Pilot.@@N@@Code
set_option linter.unusedVariables false
set_option linter.unusedSimpArgs false
namespace Jvm.RoadKit
open Sem ClassFile Op Lib Jvm.Stand Jvm.Free Jvm.LawKit
section New
variable {p : Program} {l : Launch} {e : Env} {R : Room} {s : State} {m : MethodId} {args : Array Value} {below : List Frame} {meth : Method} {c : Code} {T : State} {locs : List Loc} {cells slots : Nat}
theorem retI (X : Stand p l e R s m args below meth c T locs cells slots) (hx : p.tables.exec = Jvm.exec) {pc : Nat} {Ls : Array Slot} {z : Int32} {rest : List Value} (hret : meth.sig.returnType = some .int) (hd : decode c.code pc = .ok (.ireturn, 1)) {fs : List Frame}
    (hl : ∀ (f : JFrame) (acts : List Action), f.method = m → f.locked = none → f.entered = [] → (doReturn e (T.setTop f) acts (some (.int z))).1 = T.setFrames fs) : Steps p.tables e below (T.setTop (mkF m pc Ls (.int z :: rest))) (T.setFrames fs) := by
  have hm' : T.vm.method? m = some meth := X.method'
  have hn : narrow .int (.int z) = .int z := rfl
  show Steps p.tables e below (T.setTop { method := m, pc := pc, locals := Ls, stack := _ :: rest, locked := none }) _
  jvm_step X.here [X.here.top, hx, hd, hm', hret, hn]
  first | (intro acts; rw [hl _ acts rfl rfl rfl]) | rw [hl _ _ rfl rfl rfl]
  exact Steps.refl _
abbrev vI (x : Int32) : Slot := .val (.int x)
abbrev vJ (x : Int64) : Slot := .val (.long x)
abbrev vR (x : Addr) : Slot := .val (.ref x)
abbrev iI (x : Int32) : Value := .int x
abbrev iJ (x : Int64) : Value := .long x
abbrev iR (x : Addr) : Value := .ref x
/-- from one frame to another over the same heap -/
def own_Mid (X : Stand p l e R s m args below meth c T locs cells slots) (h : Heap) (F F' : JFrame) : Prop :=
  ∃ T', Stand p l e R s m args below meth c T' locs cells slots ∧ T'.heap = h ∧ ∀ t, Steps p.tables e below (T'.setTop F') t → Steps p.tables e below (T.setTop F) t
end New
end Jvm.RoadKit
namespace Jvm.Pilot.@@N@@
open Jvm Jvm.ClassFile Sem Op Lib Jvm.Free Jvm.Stand Jvm.LawKit Jvm.RoadKit Bundle Jvm.Pilot.@@N@@.Jvm.D
theorem pd_0 : parseMethodDescriptor "()V" = some ⟨[], none⟩ := by decide +kernel
theorem pd_1 : parseMethodDescriptor "()Z" = some ⟨[], some .boolean⟩ := by decide +kernel
theorem pd_2 : parseMethodDescriptor "([B)V" = some ⟨[(.array .byte)], none⟩ := by decide +kernel
theorem pd_3 : parseMethodDescriptor "([B)Lcom/example/threefold/threefold/protocol/ActivationKeys;" = some ⟨[(.array .byte)], some (.object "com/example/threefold/threefold/protocol/ActivationKeys")⟩ := by decide +kernel
theorem pd_4 : parseMethodDescriptor "([B[B[BLjava/lang/String;Ljava/lang/String;)V" = some ⟨[(.array .byte), (.array .byte), (.array .byte), (.object "java/lang/String"), (.object "java/lang/String")], none⟩ := by decide +kernel
theorem pd_5 : parseMethodDescriptor "()Lcom/example/threefold/threefold/store/Device;" = some ⟨[], some (.object "com/example/threefold/threefold/store/Device")⟩ := by decide +kernel
theorem pd_6 : parseMethodDescriptor "()Lcom/example/threefold/threefold/protocol/ActivationKeys;" = some ⟨[], some (.object "com/example/threefold/threefold/protocol/ActivationKeys")⟩ := by decide +kernel
theorem pd_7 : parseMethodDescriptor "()[B" = some ⟨[], some (.array .byte)⟩ := by decide +kernel

theorem own_small2 (v : Int32) (h0 : 0 ≤ v.toInt) (h1 : v.toInt < 2) : v = 0 ∨ v = 1 := by
  have h : v.toInt = 0 ∨ v.toInt = 1 := by omega
  rcases h with h | h
  · exact Or.inl (Int32.toInt_inj.mp (h.trans (by decide)))
  · exact Or.inr ((Int32.toInt_inj.mp (h.trans (by decide))))

theorem d2_0 : decode jdk_30_method_1_code 0 = .ok (.aload_n 0, 1) := by decide +kernel
theorem d2_1 : decode jdk_30_method_1_code 1 = .ok (.invokespecial 1, 3) := by decide +kernel
theorem d2_4 : decode jdk_30_method_1_code 4 = .ok (.return_, 1) := by decide +kernel
theorem pn_0 : plainName "java/lang/Record" = true := by first | (simp [plainName, overriddenIn]; done) | decide +kernel
theorem ef_2 (m : MethodId) (x0 : Addr) : entryFrame m #[(.ref x0)] 1 = mkF m 0 #[.val (.ref x0)] [] := by first | (simp [entryFrame, mkF, argsToLocals, Value.category]; done) | rfl
def Q2 (Z : State) (a1 : Addr) (h0 : Heap) (v : Option Value) (h : Heap) (L : List Loc) : Prop := v = none ∧ L = [] ∧ h = h0
set_option maxRecDepth 65536 in
set_option maxHeartbeats 40000000 in
theorem rm2 (l : Launch) (Z : State) (a0 : Array Value) (hw : ∀ d ∈ tables_1, d.before a0 Z = true) (ws : List Jvm.Cond) (a1 : Addr) (h0 : Heap) :
    MetFree l (⟨"java/lang/Record", "<init>", "()V"⟩ : MethodName) (head1 (Jvm.Cond.code (⟨"java/lang/Record", "<init>", "()V"⟩ : MethodName) jdk_30_method_1_code 1 none :: ws) ({ frames := 1, cells := 0, slots := 0, locals := 12 } : Room)) (fun a U => a = #[(.ref a1)] ∧ Z.Warmed39 U.vm ∧ U.heap = h0) (fun _ _ _ _ _ => True) (fun _ U o U' => ∃ v L, o = .returned v ∧ Q2 Z a1 h0 v U'.heap L ∧ FrameEnd U o U' L ({ frames := 1, cells := 0, slots := 0, locals := 12 } : Room).cells ({ frames := 1, cells := 0, slots := 0, locals := 12 } : Room).slots) := by
  refine MetFree.of_bodySF (plainFor_of_name pn_0) hisR ?_
  intro p e s m args below meth c s₁ Bd hml0 hP hK
  obtain ⟨rfl, hZ, hh⟩ := hP
  have hx := Bd.exec
  have hby := Bd.bytes
  have hml : c.maxLocals = 1 := hml0
  have hown : s.vm.findClass "java/lang/Record" = some m.cls := findClass_of_methodNamed Bd.named
  have hnm := (name_of_methodNamed Bd.named Bd.method).1
  have X0 : Stand p l e ({ frames := 1, cells := 0, slots := 0, locals := 12 } : Room) s m #[(.ref a1)] below meth c s₁ [] 0 0 := Stand.of_body Bd
  have e0 : s₁.heap = h0 := by rw [← hh, Bd.state]; rfl
  have pre0 : ∀ t, Steps p.tables e below (s₁.setTop (mkF m 0 #[.val (.ref a1)] [])) t → Steps p.tables e below (s₁.setTop (entryFrame m #[(.ref a1)] 1)) t := fun t k => castTop (ef_2 m a1) k
  obtain ⟨T1, X1, e1, st1⟩ := initO X0 hx hZ hown (hw _ (List.mem_of_getElem? (i := 12) rfl)) (hw _ (List.mem_of_getElem? (i := 13) rfl)) (hw _ (List.mem_of_getElem? (i := 14) rfl)) e0 (g := (mkF m 1 #[vR a1] [iR a1])) rfl (by rw [hml]; rfl) rfl (hb hby d2_1) (by decide) (W := 0) (by show 2 * 0 + _ ≤ _; exact Nat.le_of_eq rfl) (by decide)
  obtain ⟨fs, hr, hrun, hended, hW, hsame⟩ := X1.leave (v := none) (fun _ => rfl)
  refine ⟨_, _, pre0 _ ?_, hrun, hended, _, _, rfl, ?_, ⟨_, rfl⟩, hW, hsame.mono (by decide) (by decide)⟩
  · show Steps _ _ _ (s₁.setTop (mkF m 0 #[vR a1] [])) _
    refine XS.aloadN X0.here hx rfl (hb hby d2_0) rfl rfl ?_
    show Steps _ _ _ (s₁.setTop (mkF m 1 #[vR a1] [iR a1])) _
    refine st1 _ ?_
    show Steps _ _ _ (T1.setTop (mkF m 4 #[vR a1] [])) _
    exact X1.returnOut hx Bd.returns (hb hby d2_4) hr
  · show Q2 Z a1 h0 _ T1.heap _
    rw [e1]
    exact ⟨rfl, rfl, rfl⟩
theorem d1_0 : decode prog_39_method_1_code 0 = .ok (.aload_n 0, 1) := by decide +kernel
theorem d1_1 : decode prog_39_method_1_code 1 = .ok (.invokespecial 1, 3) := by decide +kernel
theorem d1_4 : decode prog_39_method_1_code 4 = .ok (.aload_n 0, 1) := by decide +kernel
theorem d1_5 : decode prog_39_method_1_code 5 = .ok (.aload_n 1, 1) := by decide +kernel
theorem d1_6 : decode prog_39_method_1_code 6 = .ok (.putfield 7, 3) := by decide +kernel
theorem d1_9 : decode prog_39_method_1_code 9 = .ok (.aload_n 0, 1) := by decide +kernel
theorem d1_10 : decode prog_39_method_1_code 10 = .ok (.aload_n 2, 1) := by decide +kernel
theorem d1_11 : decode prog_39_method_1_code 11 = .ok (.putfield 13, 3) := by decide +kernel
theorem d1_14 : decode prog_39_method_1_code 14 = .ok (.aload_n 0, 1) := by decide +kernel
theorem d1_15 : decode prog_39_method_1_code 15 = .ok (.aload_n 3, 1) := by decide +kernel
theorem d1_16 : decode prog_39_method_1_code 16 = .ok (.putfield 16, 3) := by decide +kernel
theorem d1_19 : decode prog_39_method_1_code 19 = .ok (.aload_n 0, 1) := by decide +kernel
theorem d1_20 : decode prog_39_method_1_code 20 = .ok (.aload 4, 2) := by decide +kernel
theorem d1_22 : decode prog_39_method_1_code 22 = .ok (.putfield 19, 3) := by decide +kernel
theorem d1_25 : decode prog_39_method_1_code 25 = .ok (.aload_n 0, 1) := by decide +kernel
theorem d1_26 : decode prog_39_method_1_code 26 = .ok (.aload 5, 2) := by decide +kernel
theorem d1_28 : decode prog_39_method_1_code 28 = .ok (.putfield 23, 3) := by decide +kernel
theorem d1_31 : decode prog_39_method_1_code 31 = .ok (.return_, 1) := by decide +kernel
theorem pn_1 : plainName "com/example/threefold/threefold/store/Device" = true := by first | (simp [plainName, overriddenIn]; done) | decide +kernel
theorem ef_1_s (m : MethodId) (x0 : Addr) (x1 : Addr) (x2 : Addr) (x3 : Addr) : entryFrame m #[(.ref x0), (.ref x1), (.ref x2), (.ref x3), .null, .null] 6 = mkF m 0 #[.val (.ref x0), .val (.ref x1), .val (.ref x2), .val (.ref x3), .val .null, .val .null] [] := by first | (simp [entryFrame, mkF, argsToLocals, Value.category]; done) | rfl
def Q1_s (Z : State) (a1 : Addr) (a2 : Addr) (a3 : Addr) (a4 : Addr) (h0 : Heap) (n0 : Nat) (v : Option Value) (h : Heap) (L : List Loc) : Prop := v = none ∧ Fr n0 L ∧ Keep h0 h [a1] ∧ Exa Z h a1 "com/example/threefold/threefold/store/Device" ∧ Fld Z h a1 "com/example/threefold/threefold/store/Device" "masterSecret" "[B" (.ref a4)
set_option maxRecDepth 65536 in
set_option maxHeartbeats 40000000 in
theorem rm1_s (l : Launch) (Z : State) (a0 : Array Value) (hw : ∀ d ∈ tables_1, d.before a0 Z = true) (ws : List Jvm.Cond) (a1 : Addr) (a2 : Addr) (a3 : Addr) (a4 : Addr) (h0 : Heap) (n0 : Nat) (Z0 : n0 ≤ h0.size) (E_a1 : Exa Z h0 a1 "com/example/threefold/threefold/store/Device") (g_a1 : n0 ≤ a1) (F_serverPrivateKey : Fld Z h0 a1 "com/example/threefold/threefold/store/Device" "serverPrivateKey" "[B" .null) (F_devicePublicKey : Fld Z h0 a1 "com/example/threefold/threefold/store/Device" "devicePublicKey" "[B" .null) (F_masterSecret : Fld Z h0 a1 "com/example/threefold/threefold/store/Device" "masterSecret" "[B" .null) (F_activationName : Fld Z h0 a1 "com/example/threefold/threefold/store/Device" "activationName" "Ljava/lang/String;" .null) (F_extras : Fld Z h0 a1 "com/example/threefold/threefold/store/Device" "extras" "Ljava/lang/String;" .null) :
    MetFree l (⟨"com/example/threefold/threefold/store/Device", "<init>", "([B[B[BLjava/lang/String;Ljava/lang/String;)V"⟩ : MethodName) (head1 (Jvm.Cond.code (⟨"com/example/threefold/threefold/store/Device", "<init>", "([B[B[BLjava/lang/String;Ljava/lang/String;)V"⟩ : MethodName) prog_39_method_1_code 6 none :: ws) ({ frames := 2, cells := 0, slots := 0, locals := 24 } : Room)) (fun a U => a = #[(.ref a1), (.ref a2), (.ref a3), (.ref a4), .null, .null] ∧ Z.Warmed39 U.vm ∧ U.heap = h0) (fun _ _ _ _ _ => True) (fun _ U o U' => ∃ v L, o = .returned v ∧ Q1_s Z a1 a2 a3 a4 h0 n0 v U'.heap L ∧ FrameEnd U o U' L ({ frames := 2, cells := 0, slots := 0, locals := 24 } : Room).cells ({ frames := 2, cells := 0, slots := 0, locals := 24 } : Room).slots) := by
  refine MetFree.of_bodySF (plainFor_of_name pn_1) hisR ?_
  intro p e s m args below meth c s₁ Bd hml0 hP hK
  obtain ⟨rfl, hZ, hh⟩ := hP
  have hx := Bd.exec
  have hby := Bd.bytes
  have hml : c.maxLocals = 6 := hml0
  have hown : s.vm.findClass "com/example/threefold/threefold/store/Device" = some m.cls := findClass_of_methodNamed Bd.named
  have hnm := (name_of_methodNamed Bd.named Bd.method).1
  have X0 : Stand p l e ({ frames := 2, cells := 0, slots := 0, locals := 24 } : Room) s m #[(.ref a1), (.ref a2), (.ref a3), (.ref a4), .null, .null] below meth c s₁ [] 0 0 := Stand.of_body Bd
  have e0 : s₁.heap = h0 := by rw [← hh, Bd.state]; rfl
  have N0 := Fr.nil n0
  have K0 := Keep.refl h0 [a1]
  have pre0 : ∀ t, Steps p.tables e below (s₁.setTop (mkF m 0 #[.val (.ref a1), .val (.ref a2), .val (.ref a3), .val (.ref a4), .val .null, .val .null] [])) t → Steps p.tables e below (s₁.setTop (entryFrame m #[(.ref a1), (.ref a2), (.ref a3), (.ref a4), .null, .null] 6)) t := fun t k => castTop (ef_1_s m a1 a2 a3 a4) k
  obtain ⟨_, _, ⟨T1, L1, k1, n1⟩, -, X1, ⟨Lc1, hQ1, l1, y1, z1⟩, st1⟩ := X0.specialBack hx (y := (⟨"java/lang/Record", "<init>", "()V"⟩ : MethodName)) rfl hown (mvT hZ (hw _ (List.mem_of_getElem? (i := 7) rfl))) (mvT hZ (hw _ (List.mem_of_getElem? (i := 8) rfl))) (mvT hZ (hw _ (List.mem_of_getElem? (i := 11) rfl))) (by decide) (backOf (W := 0) (rm2 l Z a0 hw [] a1 h0 ) hZ (hw _ (List.mem_of_getElem? (i := 11) rfl)) (hw _ (List.mem_of_getElem? (i := 10) rfl)) (by decide) (by decide)) (g := (mkF m 1 #[vR a1, vR a2, vR a3, vR a4, .val .null, .val .null] [iR a1])) rfl (by rw [hml]; rfl) (Steps.refl _) (a := a1) (argsL := []) (rest := []) (lenOf pd_0 rfl) rfl (by show 2 * 0 + _ ≤ _; exact Nat.le_of_eq rfl) (hb hby d1_1) (fun _ _ => ⟨rfl, e0, (by decide : 0 + 0 ≤ _), (by decide : 0 + 0 ≤ _)⟩)
  dsimp only [Pt.U, Pt.locs, Pt.cells, Pt.slots] at X1 l1 y1 z1 st1 hQ1
  subst l1 y1 z1
  obtain ⟨rfl, rfl, e1⟩ := hQ1
  try rw [List.append_nil] at X1
  obtain ⟨T2, h2, X2, e2, W2, st2⟩ := putF X1 hx hZ hown (host := "") (Or.inl (hw _ (List.mem_of_getElem? (i := 15) rfl))) Via.refl e1 F_serverPrivateKey E_a1 (Or.inr ⟨(hw _ (List.mem_of_getElem? (i := 16) rfl)), rfl, hnm⟩) (hw _ (List.mem_of_getElem? (i := 1) rfl)) (ty := (.array .byte)) (by decide) rfl rfl (g := (mkF m 6 #[vR a1, vR a2, vR a3, vR a4, .val .null, .val .null] [iR a2, iR a1])) rfl rfl (hb hby d1_6)
  have Fw2 := F_serverPrivateKey.same W2
  have K2 : Keep h0 h2 [a1] := K0.wr W2 (Or.inl (List.mem_of_getElem? (i := 0) rfl))
  have N2 := Fr.snoc X2 N0 g_a1
  have fk3 := (F_devicePublicKey.other W2 (Or.inr (slot_ne (Or.inr (hw _ (List.mem_of_getElem? (i := 18) rfl))) (Or.inr (hw _ (List.mem_of_getElem? (i := 16) rfl))) (by decide) (t := (.array .byte)) (t' := (.array .byte)) (by decide) (by decide))))
  have fk4 := (E_a1.wr W2)
  obtain ⟨T5, h5, X5, e5, W5, st5⟩ := putF X2 hx hZ hown (host := "") (Or.inl (hw _ (List.mem_of_getElem? (i := 17) rfl))) Via.refl e2 fk3 fk4 (Or.inr ⟨(hw _ (List.mem_of_getElem? (i := 18) rfl)), rfl, hnm⟩) (hw _ (List.mem_of_getElem? (i := 1) rfl)) (ty := (.array .byte)) (by decide) rfl rfl (g := (mkF m 11 #[vR a1, vR a2, vR a3, vR a4, .val .null, .val .null] [iR a3, iR a1])) rfl rfl (hb hby d1_11)
  have Fw5 := fk3.same W5
  have K5 : Keep h0 h5 [a1] := K2.wr W5 (Or.inl (List.mem_of_getElem? (i := 0) rfl))
  have N5 := Fr.snoc X5 N2 g_a1
  have fk6 := ((F_masterSecret.other W2 (Or.inr (slot_ne (Or.inr (hw _ (List.mem_of_getElem? (i := 20) rfl))) (Or.inr (hw _ (List.mem_of_getElem? (i := 16) rfl))) (by decide) (t := (.array .byte)) (t' := (.array .byte)) (by decide) (by decide)))).other W5 (Or.inr (slot_ne (Or.inr (hw _ (List.mem_of_getElem? (i := 20) rfl))) (Or.inr (hw _ (List.mem_of_getElem? (i := 18) rfl))) (by decide) (t := (.array .byte)) (t' := (.array .byte)) (by decide) (by decide))))
  have fk7 := (fk4.wr W5)
  obtain ⟨T8, h8, X8, e8, W8, st8⟩ := putF X5 hx hZ hown (host := "") (Or.inl (hw _ (List.mem_of_getElem? (i := 19) rfl))) Via.refl e5 fk6 fk7 (Or.inr ⟨(hw _ (List.mem_of_getElem? (i := 20) rfl)), rfl, hnm⟩) (hw _ (List.mem_of_getElem? (i := 1) rfl)) (ty := (.array .byte)) (by decide) rfl rfl (g := (mkF m 16 #[vR a1, vR a2, vR a3, vR a4, .val .null, .val .null] [iR a4, iR a1])) rfl rfl (hb hby d1_16)
  have Fw8 := fk6.same W8
  have K8 : Keep h0 h8 [a1] := K5.wr W8 (Or.inl (List.mem_of_getElem? (i := 0) rfl))
  have N8 := Fr.snoc X8 N5 g_a1
  have fk9 := (((F_activationName.other W2 (Or.inr (slot_ne (Or.inr (hw _ (List.mem_of_getElem? (i := 22) rfl))) (Or.inr (hw _ (List.mem_of_getElem? (i := 16) rfl))) (by decide) (t := (.object "java/lang/String")) (t' := (.array .byte)) (by decide) (by decide)))).other W5 (Or.inr (slot_ne (Or.inr (hw _ (List.mem_of_getElem? (i := 22) rfl))) (Or.inr (hw _ (List.mem_of_getElem? (i := 18) rfl))) (by decide) (t := (.object "java/lang/String")) (t' := (.array .byte)) (by decide) (by decide)))).other W8 (Or.inr (slot_ne (Or.inr (hw _ (List.mem_of_getElem? (i := 22) rfl))) (Or.inr (hw _ (List.mem_of_getElem? (i := 20) rfl))) (by decide) (t := (.object "java/lang/String")) (t' := (.array .byte)) (by decide) (by decide))))
  have fk10 := (fk7.wr W8)
  obtain ⟨T11, h11, X11, e11, W11, st11⟩ := putF X8 hx hZ hown (host := "") (Or.inl (hw _ (List.mem_of_getElem? (i := 21) rfl))) Via.refl e8 fk9 fk10 (Or.inr ⟨(hw _ (List.mem_of_getElem? (i := 22) rfl)), rfl, hnm⟩) (hw _ (List.mem_of_getElem? (i := 1) rfl)) (ty := (.object "java/lang/String")) (by decide) rfl rfl (g := (mkF m 22 #[vR a1, vR a2, vR a3, vR a4, .val .null, .val .null] [.null, iR a1])) rfl rfl (hb hby d1_22)
  have Fw11 := fk9.same W11
  have K11 : Keep h0 h11 [a1] := K8.wr W11 (Or.inl (List.mem_of_getElem? (i := 0) rfl))
  have N11 := Fr.snoc X11 N8 g_a1
  have fk12 := ((((F_extras.other W2 (Or.inr (slot_ne (Or.inr (hw _ (List.mem_of_getElem? (i := 24) rfl))) (Or.inr (hw _ (List.mem_of_getElem? (i := 16) rfl))) (by decide) (t := (.object "java/lang/String")) (t' := (.array .byte)) (by decide) (by decide)))).other W5 (Or.inr (slot_ne (Or.inr (hw _ (List.mem_of_getElem? (i := 24) rfl))) (Or.inr (hw _ (List.mem_of_getElem? (i := 18) rfl))) (by decide) (t := (.object "java/lang/String")) (t' := (.array .byte)) (by decide) (by decide)))).other W8 (Or.inr (slot_ne (Or.inr (hw _ (List.mem_of_getElem? (i := 24) rfl))) (Or.inr (hw _ (List.mem_of_getElem? (i := 20) rfl))) (by decide) (t := (.object "java/lang/String")) (t' := (.array .byte)) (by decide) (by decide)))).other W11 (Or.inr (slot_ne (Or.inr (hw _ (List.mem_of_getElem? (i := 24) rfl))) (Or.inr (hw _ (List.mem_of_getElem? (i := 22) rfl))) (by decide) (t := (.object "java/lang/String")) (t' := (.object "java/lang/String")) (by decide) (by decide))))
  have fk13 := (fk10.wr W11)
  obtain ⟨T14, h14, X14, e14, W14, st14⟩ := putF X11 hx hZ hown (host := "") (Or.inl (hw _ (List.mem_of_getElem? (i := 23) rfl))) Via.refl e11 fk12 fk13 (Or.inr ⟨(hw _ (List.mem_of_getElem? (i := 24) rfl)), rfl, hnm⟩) (hw _ (List.mem_of_getElem? (i := 1) rfl)) (ty := (.object "java/lang/String")) (by decide) rfl rfl (g := (mkF m 28 #[vR a1, vR a2, vR a3, vR a4, .val .null, .val .null] [.null, iR a1])) rfl rfl (hb hby d1_28)
  have Fw14 := fk12.same W14
  have K14 : Keep h0 h14 [a1] := K11.wr W14 (Or.inl (List.mem_of_getElem? (i := 0) rfl))
  have N14 := Fr.snoc X14 N11 g_a1
  obtain ⟨fs, hr, hrun, hended, hW, hsame⟩ := X14.leave (v := none) (fun _ => rfl)
  have fk15 := (fk13.wr W14)
  have fk16 := ((Fw8.other W11 (Or.inr (slot_ne (Or.inr (hw _ (List.mem_of_getElem? (i := 20) rfl))) (Or.inr (hw _ (List.mem_of_getElem? (i := 22) rfl))) (by decide) (t := (.array .byte)) (t' := (.object "java/lang/String")) (by decide) (by decide)))).other W14 (Or.inr (slot_ne (Or.inr (hw _ (List.mem_of_getElem? (i := 20) rfl))) (Or.inr (hw _ (List.mem_of_getElem? (i := 24) rfl))) (by decide) (t := (.array .byte)) (t' := (.object "java/lang/String")) (by decide) (by decide))))
  refine ⟨_, _, pre0 _ ?_, hrun, hended, _, _, rfl, ?_, ⟨_, rfl⟩, hW, hsame.mono (by decide) (by decide)⟩
  · show Steps _ _ _ (s₁.setTop (mkF m 0 #[vR a1, vR a2, vR a3, vR a4, .val .null, .val .null] [])) _
    refine XS.aloadN X0.here hx rfl (hb hby d1_0) rfl rfl ?_
    show Steps _ _ _ (s₁.setTop (mkF m 1 #[vR a1, vR a2, vR a3, vR a4, .val .null, .val .null] [iR a1])) _
    refine st1.trans ?_
    show Steps _ _ _ (T1.setTop (mkF m 4 #[vR a1, vR a2, vR a3, vR a4, .val .null, .val .null] [])) _
    refine XS.aloadN X1.here hx rfl (hb hby d1_4) rfl rfl ?_
    show Steps _ _ _ (T1.setTop (mkF m 5 #[vR a1, vR a2, vR a3, vR a4, .val .null, .val .null] [iR a1])) _
    refine XS.aloadN X1.here hx rfl (hb hby d1_5) rfl rfl ?_
    show Steps _ _ _ (T1.setTop (mkF m 6 #[vR a1, vR a2, vR a3, vR a4, .val .null, .val .null] [iR a2, iR a1])) _
    refine st2 _ ?_
    show Steps _ _ _ (T2.setTop (mkF m 9 #[vR a1, vR a2, vR a3, vR a4, .val .null, .val .null] [])) _
    refine XS.aloadN X2.here hx rfl (hb hby d1_9) rfl rfl ?_
    show Steps _ _ _ (T2.setTop (mkF m 10 #[vR a1, vR a2, vR a3, vR a4, .val .null, .val .null] [iR a1])) _
    refine XS.aloadN X2.here hx rfl (hb hby d1_10) rfl rfl ?_
    show Steps _ _ _ (T2.setTop (mkF m 11 #[vR a1, vR a2, vR a3, vR a4, .val .null, .val .null] [iR a3, iR a1])) _
    refine st5 _ ?_
    show Steps _ _ _ (T5.setTop (mkF m 14 #[vR a1, vR a2, vR a3, vR a4, .val .null, .val .null] [])) _
    refine XS.aloadN X5.here hx rfl (hb hby d1_14) rfl rfl ?_
    show Steps _ _ _ (T5.setTop (mkF m 15 #[vR a1, vR a2, vR a3, vR a4, .val .null, .val .null] [iR a1])) _
    refine XS.aloadN X5.here hx rfl (hb hby d1_15) rfl rfl ?_
    show Steps _ _ _ (T5.setTop (mkF m 16 #[vR a1, vR a2, vR a3, vR a4, .val .null, .val .null] [iR a4, iR a1])) _
    refine st8 _ ?_
    show Steps _ _ _ (T8.setTop (mkF m 19 #[vR a1, vR a2, vR a3, vR a4, .val .null, .val .null] [])) _
    refine XS.aloadN X8.here hx rfl (hb hby d1_19) rfl rfl ?_
    show Steps _ _ _ (T8.setTop (mkF m 20 #[vR a1, vR a2, vR a3, vR a4, .val .null, .val .null] [iR a1])) _
    refine XS.aload X8.here hx rfl (hb hby d1_20) rfl rfl ?_
    show Steps _ _ _ (T8.setTop (mkF m 22 #[vR a1, vR a2, vR a3, vR a4, .val .null, .val .null] [.null, iR a1])) _
    refine st11 _ ?_
    show Steps _ _ _ (T11.setTop (mkF m 25 #[vR a1, vR a2, vR a3, vR a4, .val .null, .val .null] [])) _
    refine XS.aloadN X11.here hx rfl (hb hby d1_25) rfl rfl ?_
    show Steps _ _ _ (T11.setTop (mkF m 26 #[vR a1, vR a2, vR a3, vR a4, .val .null, .val .null] [iR a1])) _
    refine XS.aload X11.here hx rfl (hb hby d1_26) rfl rfl ?_
    show Steps _ _ _ (T11.setTop (mkF m 28 #[vR a1, vR a2, vR a3, vR a4, .val .null, .val .null] [.null, iR a1])) _
    refine st14 _ ?_
    show Steps _ _ _ (T14.setTop (mkF m 31 #[vR a1, vR a2, vR a3, vR a4, .val .null, .val .null] [])) _
    exact X14.returnOut hx Bd.returns (hb hby d1_31) hr
  · show Q1_s Z a1 a2 a3 a4 h0 n0 _ T14.heap _
    rw [e14]
    exact ⟨rfl, N14, K14, fk15, fk16⟩
theorem ef_1_n (m : MethodId) (x0 : Addr) (x1 : Addr) (x2 : Addr) : entryFrame m #[(.ref x0), (.ref x1), (.ref x2), .null, .null, .null] 6 = mkF m 0 #[.val (.ref x0), .val (.ref x1), .val (.ref x2), .val .null, .val .null, .val .null] [] := by first | (simp [entryFrame, mkF, argsToLocals, Value.category]; done) | rfl
def Q1_n (Z : State) (a1 : Addr) (a2 : Addr) (a3 : Addr) (h0 : Heap) (n0 : Nat) (v : Option Value) (h : Heap) (L : List Loc) : Prop := v = none ∧ Fr n0 L ∧ Keep h0 h [a1] ∧ Exa Z h a1 "com/example/threefold/threefold/store/Device" ∧ Fld Z h a1 "com/example/threefold/threefold/store/Device" "masterSecret" "[B" .null
set_option maxRecDepth 65536 in
set_option maxHeartbeats 40000000 in
theorem rm1_n (l : Launch) (Z : State) (a0 : Array Value) (hw : ∀ d ∈ tables_1, d.before a0 Z = true) (ws : List Jvm.Cond) (a1 : Addr) (a2 : Addr) (a3 : Addr) (h0 : Heap) (n0 : Nat) (Z0 : n0 ≤ h0.size) (E_a1 : Exa Z h0 a1 "com/example/threefold/threefold/store/Device") (g_a1 : n0 ≤ a1) (F_serverPrivateKey : Fld Z h0 a1 "com/example/threefold/threefold/store/Device" "serverPrivateKey" "[B" .null) (F_devicePublicKey : Fld Z h0 a1 "com/example/threefold/threefold/store/Device" "devicePublicKey" "[B" .null) (F_masterSecret : Fld Z h0 a1 "com/example/threefold/threefold/store/Device" "masterSecret" "[B" .null) (F_activationName : Fld Z h0 a1 "com/example/threefold/threefold/store/Device" "activationName" "Ljava/lang/String;" .null) (F_extras : Fld Z h0 a1 "com/example/threefold/threefold/store/Device" "extras" "Ljava/lang/String;" .null) :
    MetFree l (⟨"com/example/threefold/threefold/store/Device", "<init>", "([B[B[BLjava/lang/String;Ljava/lang/String;)V"⟩ : MethodName) (head1 (Jvm.Cond.code (⟨"com/example/threefold/threefold/store/Device", "<init>", "([B[B[BLjava/lang/String;Ljava/lang/String;)V"⟩ : MethodName) prog_39_method_1_code 6 none :: ws) ({ frames := 2, cells := 0, slots := 0, locals := 24 } : Room)) (fun a U => a = #[(.ref a1), (.ref a2), (.ref a3), .null, .null, .null] ∧ Z.Warmed39 U.vm ∧ U.heap = h0) (fun _ _ _ _ _ => True) (fun _ U o U' => ∃ v L, o = .returned v ∧ Q1_n Z a1 a2 a3 h0 n0 v U'.heap L ∧ FrameEnd U o U' L ({ frames := 2, cells := 0, slots := 0, locals := 24 } : Room).cells ({ frames := 2, cells := 0, slots := 0, locals := 24 } : Room).slots) := by
  refine MetFree.of_bodySF (plainFor_of_name pn_1) hisR ?_
  intro p e s m args below meth c s₁ Bd hml0 hP hK
  obtain ⟨rfl, hZ, hh⟩ := hP
  have hx := Bd.exec
  have hby := Bd.bytes
  have hml : c.maxLocals = 6 := hml0
  have hown : s.vm.findClass "com/example/threefold/threefold/store/Device" = some m.cls := findClass_of_methodNamed Bd.named
  have hnm := (name_of_methodNamed Bd.named Bd.method).1
  have X0 : Stand p l e ({ frames := 2, cells := 0, slots := 0, locals := 24 } : Room) s m #[(.ref a1), (.ref a2), (.ref a3), .null, .null, .null] below meth c s₁ [] 0 0 := Stand.of_body Bd
  have e0 : s₁.heap = h0 := by rw [← hh, Bd.state]; rfl
  have N0 := Fr.nil n0
  have K0 := Keep.refl h0 [a1]
  have pre0 : ∀ t, Steps p.tables e below (s₁.setTop (mkF m 0 #[.val (.ref a1), .val (.ref a2), .val (.ref a3), .val .null, .val .null, .val .null] [])) t → Steps p.tables e below (s₁.setTop (entryFrame m #[(.ref a1), (.ref a2), (.ref a3), .null, .null, .null] 6)) t := fun t k => castTop (ef_1_n m a1 a2 a3) k
  obtain ⟨_, _, ⟨T1, L1, k1, n1⟩, -, X1, ⟨Lc1, hQ1, l1, y1, z1⟩, st1⟩ := X0.specialBack hx (y := (⟨"java/lang/Record", "<init>", "()V"⟩ : MethodName)) rfl hown (mvT hZ (hw _ (List.mem_of_getElem? (i := 7) rfl))) (mvT hZ (hw _ (List.mem_of_getElem? (i := 8) rfl))) (mvT hZ (hw _ (List.mem_of_getElem? (i := 11) rfl))) (by decide) (backOf (W := 0) (rm2 l Z a0 hw [] a1 h0 ) hZ (hw _ (List.mem_of_getElem? (i := 11) rfl)) (hw _ (List.mem_of_getElem? (i := 10) rfl)) (by decide) (by decide)) (g := (mkF m 1 #[vR a1, vR a2, vR a3, .val .null, .val .null, .val .null] [iR a1])) rfl (by rw [hml]; rfl) (Steps.refl _) (a := a1) (argsL := []) (rest := []) (lenOf pd_0 rfl) rfl (by show 2 * 0 + _ ≤ _; exact Nat.le_of_eq rfl) (hb hby d1_1) (fun _ _ => ⟨rfl, e0, (by decide : 0 + 0 ≤ _), (by decide : 0 + 0 ≤ _)⟩)
  dsimp only [Pt.U, Pt.locs, Pt.cells, Pt.slots] at X1 l1 y1 z1 st1 hQ1
  subst l1 y1 z1
  obtain ⟨rfl, rfl, e1⟩ := hQ1
  try rw [List.append_nil] at X1
  obtain ⟨T2, h2, X2, e2, W2, st2⟩ := putF X1 hx hZ hown (host := "") (Or.inl (hw _ (List.mem_of_getElem? (i := 15) rfl))) Via.refl e1 F_serverPrivateKey E_a1 (Or.inr ⟨(hw _ (List.mem_of_getElem? (i := 16) rfl)), rfl, hnm⟩) (hw _ (List.mem_of_getElem? (i := 1) rfl)) (ty := (.array .byte)) (by decide) rfl rfl (g := (mkF m 6 #[vR a1, vR a2, vR a3, .val .null, .val .null, .val .null] [iR a2, iR a1])) rfl rfl (hb hby d1_6)
  have Fw2 := F_serverPrivateKey.same W2
  have K2 : Keep h0 h2 [a1] := K0.wr W2 (Or.inl (List.mem_of_getElem? (i := 0) rfl))
  have N2 := Fr.snoc X2 N0 g_a1
  have fk3 := (F_devicePublicKey.other W2 (Or.inr (slot_ne (Or.inr (hw _ (List.mem_of_getElem? (i := 18) rfl))) (Or.inr (hw _ (List.mem_of_getElem? (i := 16) rfl))) (by decide) (t := (.array .byte)) (t' := (.array .byte)) (by decide) (by decide))))
  have fk4 := (E_a1.wr W2)
  obtain ⟨T5, h5, X5, e5, W5, st5⟩ := putF X2 hx hZ hown (host := "") (Or.inl (hw _ (List.mem_of_getElem? (i := 17) rfl))) Via.refl e2 fk3 fk4 (Or.inr ⟨(hw _ (List.mem_of_getElem? (i := 18) rfl)), rfl, hnm⟩) (hw _ (List.mem_of_getElem? (i := 1) rfl)) (ty := (.array .byte)) (by decide) rfl rfl (g := (mkF m 11 #[vR a1, vR a2, vR a3, .val .null, .val .null, .val .null] [iR a3, iR a1])) rfl rfl (hb hby d1_11)
  have Fw5 := fk3.same W5
  have K5 : Keep h0 h5 [a1] := K2.wr W5 (Or.inl (List.mem_of_getElem? (i := 0) rfl))
  have N5 := Fr.snoc X5 N2 g_a1
  have fk6 := ((F_masterSecret.other W2 (Or.inr (slot_ne (Or.inr (hw _ (List.mem_of_getElem? (i := 20) rfl))) (Or.inr (hw _ (List.mem_of_getElem? (i := 16) rfl))) (by decide) (t := (.array .byte)) (t' := (.array .byte)) (by decide) (by decide)))).other W5 (Or.inr (slot_ne (Or.inr (hw _ (List.mem_of_getElem? (i := 20) rfl))) (Or.inr (hw _ (List.mem_of_getElem? (i := 18) rfl))) (by decide) (t := (.array .byte)) (t' := (.array .byte)) (by decide) (by decide))))
  have fk7 := (fk4.wr W5)
  obtain ⟨T8, h8, X8, e8, W8, st8⟩ := putF X5 hx hZ hown (host := "") (Or.inl (hw _ (List.mem_of_getElem? (i := 19) rfl))) Via.refl e5 fk6 fk7 (Or.inr ⟨(hw _ (List.mem_of_getElem? (i := 20) rfl)), rfl, hnm⟩) (hw _ (List.mem_of_getElem? (i := 1) rfl)) (ty := (.array .byte)) (by decide) rfl rfl (g := (mkF m 16 #[vR a1, vR a2, vR a3, .val .null, .val .null, .val .null] [.null, iR a1])) rfl rfl (hb hby d1_16)
  have Fw8 := fk6.same W8
  have K8 : Keep h0 h8 [a1] := K5.wr W8 (Or.inl (List.mem_of_getElem? (i := 0) rfl))
  have N8 := Fr.snoc X8 N5 g_a1
  have fk9 := (((F_activationName.other W2 (Or.inr (slot_ne (Or.inr (hw _ (List.mem_of_getElem? (i := 22) rfl))) (Or.inr (hw _ (List.mem_of_getElem? (i := 16) rfl))) (by decide) (t := (.object "java/lang/String")) (t' := (.array .byte)) (by decide) (by decide)))).other W5 (Or.inr (slot_ne (Or.inr (hw _ (List.mem_of_getElem? (i := 22) rfl))) (Or.inr (hw _ (List.mem_of_getElem? (i := 18) rfl))) (by decide) (t := (.object "java/lang/String")) (t' := (.array .byte)) (by decide) (by decide)))).other W8 (Or.inr (slot_ne (Or.inr (hw _ (List.mem_of_getElem? (i := 22) rfl))) (Or.inr (hw _ (List.mem_of_getElem? (i := 20) rfl))) (by decide) (t := (.object "java/lang/String")) (t' := (.array .byte)) (by decide) (by decide))))
  have fk10 := (fk7.wr W8)
  obtain ⟨T11, h11, X11, e11, W11, st11⟩ := putF X8 hx hZ hown (host := "") (Or.inl (hw _ (List.mem_of_getElem? (i := 21) rfl))) Via.refl e8 fk9 fk10 (Or.inr ⟨(hw _ (List.mem_of_getElem? (i := 22) rfl)), rfl, hnm⟩) (hw _ (List.mem_of_getElem? (i := 1) rfl)) (ty := (.object "java/lang/String")) (by decide) rfl rfl (g := (mkF m 22 #[vR a1, vR a2, vR a3, .val .null, .val .null, .val .null] [.null, iR a1])) rfl rfl (hb hby d1_22)
  have Fw11 := fk9.same W11
  have K11 : Keep h0 h11 [a1] := K8.wr W11 (Or.inl (List.mem_of_getElem? (i := 0) rfl))
  have N11 := Fr.snoc X11 N8 g_a1
  have fk12 := ((((F_extras.other W2 (Or.inr (slot_ne (Or.inr (hw _ (List.mem_of_getElem? (i := 24) rfl))) (Or.inr (hw _ (List.mem_of_getElem? (i := 16) rfl))) (by decide) (t := (.object "java/lang/String")) (t' := (.array .byte)) (by decide) (by decide)))).other W5 (Or.inr (slot_ne (Or.inr (hw _ (List.mem_of_getElem? (i := 24) rfl))) (Or.inr (hw _ (List.mem_of_getElem? (i := 18) rfl))) (by decide) (t := (.object "java/lang/String")) (t' := (.array .byte)) (by decide) (by decide)))).other W8 (Or.inr (slot_ne (Or.inr (hw _ (List.mem_of_getElem? (i := 24) rfl))) (Or.inr (hw _ (List.mem_of_getElem? (i := 20) rfl))) (by decide) (t := (.object "java/lang/String")) (t' := (.array .byte)) (by decide) (by decide)))).other W11 (Or.inr (slot_ne (Or.inr (hw _ (List.mem_of_getElem? (i := 24) rfl))) (Or.inr (hw _ (List.mem_of_getElem? (i := 22) rfl))) (by decide) (t := (.object "java/lang/String")) (t' := (.object "java/lang/String")) (by decide) (by decide))))
  have fk13 := (fk10.wr W11)
  obtain ⟨T14, h14, X14, e14, W14, st14⟩ := putF X11 hx hZ hown (host := "") (Or.inl (hw _ (List.mem_of_getElem? (i := 23) rfl))) Via.refl e11 fk12 fk13 (Or.inr ⟨(hw _ (List.mem_of_getElem? (i := 24) rfl)), rfl, hnm⟩) (hw _ (List.mem_of_getElem? (i := 1) rfl)) (ty := (.object "java/lang/String")) (by decide) rfl rfl (g := (mkF m 28 #[vR a1, vR a2, vR a3, .val .null, .val .null, .val .null] [.null, iR a1])) rfl rfl (hb hby d1_28)
  have Fw14 := fk12.same W14
  have K14 : Keep h0 h14 [a1] := K11.wr W14 (Or.inl (List.mem_of_getElem? (i := 0) rfl))
  have N14 := Fr.snoc X14 N11 g_a1
  obtain ⟨fs, hr, hrun, hended, hW, hsame⟩ := X14.leave (v := none) (fun _ => rfl)
  have fk15 := (fk13.wr W14)
  have fk16 := ((Fw8.other W11 (Or.inr (slot_ne (Or.inr (hw _ (List.mem_of_getElem? (i := 20) rfl))) (Or.inr (hw _ (List.mem_of_getElem? (i := 22) rfl))) (by decide) (t := (.array .byte)) (t' := (.object "java/lang/String")) (by decide) (by decide)))).other W14 (Or.inr (slot_ne (Or.inr (hw _ (List.mem_of_getElem? (i := 20) rfl))) (Or.inr (hw _ (List.mem_of_getElem? (i := 24) rfl))) (by decide) (t := (.array .byte)) (t' := (.object "java/lang/String")) (by decide) (by decide))))
  refine ⟨_, _, pre0 _ ?_, hrun, hended, _, _, rfl, ?_, ⟨_, rfl⟩, hW, hsame.mono (by decide) (by decide)⟩
  · show Steps _ _ _ (s₁.setTop (mkF m 0 #[vR a1, vR a2, vR a3, .val .null, .val .null, .val .null] [])) _
    refine XS.aloadN X0.here hx rfl (hb hby d1_0) rfl rfl ?_
    show Steps _ _ _ (s₁.setTop (mkF m 1 #[vR a1, vR a2, vR a3, .val .null, .val .null, .val .null] [iR a1])) _
    refine st1.trans ?_
    show Steps _ _ _ (T1.setTop (mkF m 4 #[vR a1, vR a2, vR a3, .val .null, .val .null, .val .null] [])) _
    refine XS.aloadN X1.here hx rfl (hb hby d1_4) rfl rfl ?_
    show Steps _ _ _ (T1.setTop (mkF m 5 #[vR a1, vR a2, vR a3, .val .null, .val .null, .val .null] [iR a1])) _
    refine XS.aloadN X1.here hx rfl (hb hby d1_5) rfl rfl ?_
    show Steps _ _ _ (T1.setTop (mkF m 6 #[vR a1, vR a2, vR a3, .val .null, .val .null, .val .null] [iR a2, iR a1])) _
    refine st2 _ ?_
    show Steps _ _ _ (T2.setTop (mkF m 9 #[vR a1, vR a2, vR a3, .val .null, .val .null, .val .null] [])) _
    refine XS.aloadN X2.here hx rfl (hb hby d1_9) rfl rfl ?_
    show Steps _ _ _ (T2.setTop (mkF m 10 #[vR a1, vR a2, vR a3, .val .null, .val .null, .val .null] [iR a1])) _
    refine XS.aloadN X2.here hx rfl (hb hby d1_10) rfl rfl ?_
    show Steps _ _ _ (T2.setTop (mkF m 11 #[vR a1, vR a2, vR a3, .val .null, .val .null, .val .null] [iR a3, iR a1])) _
    refine st5 _ ?_
    show Steps _ _ _ (T5.setTop (mkF m 14 #[vR a1, vR a2, vR a3, .val .null, .val .null, .val .null] [])) _
    refine XS.aloadN X5.here hx rfl (hb hby d1_14) rfl rfl ?_
    show Steps _ _ _ (T5.setTop (mkF m 15 #[vR a1, vR a2, vR a3, .val .null, .val .null, .val .null] [iR a1])) _
    refine XS.aloadN X5.here hx rfl (hb hby d1_15) rfl rfl ?_
    show Steps _ _ _ (T5.setTop (mkF m 16 #[vR a1, vR a2, vR a3, .val .null, .val .null, .val .null] [.null, iR a1])) _
    refine st8 _ ?_
    show Steps _ _ _ (T8.setTop (mkF m 19 #[vR a1, vR a2, vR a3, .val .null, .val .null, .val .null] [])) _
    refine XS.aloadN X8.here hx rfl (hb hby d1_19) rfl rfl ?_
    show Steps _ _ _ (T8.setTop (mkF m 20 #[vR a1, vR a2, vR a3, .val .null, .val .null, .val .null] [iR a1])) _
    refine XS.aload X8.here hx rfl (hb hby d1_20) rfl rfl ?_
    show Steps _ _ _ (T8.setTop (mkF m 22 #[vR a1, vR a2, vR a3, .val .null, .val .null, .val .null] [.null, iR a1])) _
    refine st11 _ ?_
    show Steps _ _ _ (T11.setTop (mkF m 25 #[vR a1, vR a2, vR a3, .val .null, .val .null, .val .null] [])) _
    refine XS.aloadN X11.here hx rfl (hb hby d1_25) rfl rfl ?_
    show Steps _ _ _ (T11.setTop (mkF m 26 #[vR a1, vR a2, vR a3, .val .null, .val .null, .val .null] [iR a1])) _
    refine XS.aload X11.here hx rfl (hb hby d1_26) rfl rfl ?_
    show Steps _ _ _ (T11.setTop (mkF m 28 #[vR a1, vR a2, vR a3, .val .null, .val .null, .val .null] [.null, iR a1])) _
    refine st14 _ ?_
    show Steps _ _ _ (T14.setTop (mkF m 31 #[vR a1, vR a2, vR a3, .val .null, .val .null, .val .null] [])) _
    exact X14.returnOut hx Bd.returns (hb hby d1_31) hr
  · show Q1_n Z a1 a2 a3 h0 n0 _ T14.heap _
    rw [e14]
    exact ⟨rfl, N14, K14, fk15, fk16⟩
theorem d4_0 : decode prog_39_method_3_code 0 = .ok (.aload_n 0, 1) := by decide +kernel
theorem d4_1 : decode prog_39_method_3_code 1 = .ok (.getfield 16, 3) := by decide +kernel
theorem d4_4 : decode prog_39_method_3_code 4 = .ok (.ifnull 7, 3) := by decide +kernel
theorem d4_7 : decode prog_39_method_3_code 7 = .ok (.iconst 1, 1) := by decide +kernel
theorem d4_8 : decode prog_39_method_3_code 8 = .ok (.goto 4, 3) := by decide +kernel
theorem d4_12 : decode prog_39_method_3_code 12 = .ok (.ireturn, 1) := by decide +kernel
theorem ef_4_s (m : MethodId) (x0 : Addr) : entryFrame m #[(.ref x0)] 1 = mkF m 0 #[.val (.ref x0)] [] := by first | (simp [entryFrame, mkF, argsToLocals, Value.category]; done) | rfl
def Q4_s (Z : State) (a1 : Addr) (b4 : Addr) (h0 : Heap) (v : Option Value) (h : Heap) (L : List Loc) : Prop := v = some (.int (1 : Int32)) ∧ L = [] ∧ h = h0
set_option maxRecDepth 65536 in
set_option maxHeartbeats 40000000 in
theorem rm4_s (l : Launch) (Z : State) (a0 : Array Value) (hw : ∀ d ∈ tables_1, d.before a0 Z = true) (ws : List Jvm.Cond) (a1 : Addr) (b4 : Addr) (h0 : Heap) (F_m : Fld Z h0 a1 "com/example/threefold/threefold/store/Device" "masterSecret" "[B" (.ref b4)) :
    MetFree l (⟨"com/example/threefold/threefold/store/Device", "hasMasterSecret", "()Z"⟩ : MethodName) (head1 (Jvm.Cond.code (⟨"com/example/threefold/threefold/store/Device", "hasMasterSecret", "()Z"⟩ : MethodName) prog_39_method_3_code 1 (some .boolean) :: ws) ({ frames := 0, cells := 0, slots := 0, locals := 0 } : Room)) (fun a U => a = #[(.ref a1)] ∧ Z.Warmed39 U.vm ∧ U.heap = h0) (fun _ _ _ _ _ => True) (fun _ U o U' => ∃ v L, o = .returned v ∧ Q4_s Z a1 b4 h0 v U'.heap L ∧ FrameEnd U o U' L ({ frames := 0, cells := 0, slots := 0, locals := 0 } : Room).cells ({ frames := 0, cells := 0, slots := 0, locals := 0 } : Room).slots) := by
  refine MetFree.of_bodySF (plainFor_of_name pn_1) hisR ?_
  intro p e s m args below meth c s₁ Bd hml0 hP hK
  obtain ⟨rfl, hZ, hh⟩ := hP
  have hx := Bd.exec
  have hby := Bd.bytes
  have hml : c.maxLocals = 1 := hml0
  have hown : s.vm.findClass "com/example/threefold/threefold/store/Device" = some m.cls := findClass_of_methodNamed Bd.named
  have hnm := (name_of_methodNamed Bd.named Bd.method).1
  have X0 : Stand p l e ({ frames := 0, cells := 0, slots := 0, locals := 0 } : Room) s m #[(.ref a1)] below meth c s₁ [] 0 0 := Stand.of_body Bd
  have e0 : s₁.heap = h0 := by rw [← hh, Bd.state]; rfl
  have pre0 : ∀ t, Steps p.tables e below (s₁.setTop (mkF m 0 #[.val (.ref a1)] [])) t → Steps p.tables e below (s₁.setTop (entryFrame m #[(.ref a1)] 1)) t := fun t k => castTop (ef_4_s m a1) k
  obtain ⟨T1, X1, e1, st1⟩ := getF X0 hx hZ hown (host := "") (Or.inl (hw _ (List.mem_of_getElem? (i := 19) rfl))) Via.refl e0 F_m (g := (mkF m 1 #[vR a1] [iR a1])) rfl rfl (hb hby d4_1)
  obtain ⟨fs, hr, hrun, hended, hW, hsame⟩ := X1.leave (v := some (.int (1 : Int32))) (fun h => by rw [Bd.returns] at h; cases h)
  refine ⟨_, _, pre0 _ ?_, hrun, hended, _, _, rfl, ?_, ⟨_, rfl⟩, hW, hsame.mono (by decide) (by decide)⟩
  · show Steps _ _ _ (s₁.setTop (mkF m 0 #[vR a1] [])) _
    refine XS.aloadN X0.here hx rfl (hb hby d4_0) rfl rfl ?_
    show Steps _ _ _ (s₁.setTop (mkF m 1 #[vR a1] [iR a1])) _
    refine st1 _ ?_
    show Steps _ _ _ (T1.setTop (mkF m 4 #[vR a1] [iR b4])) _
    refine XS.ifnullNo X1.here hx rfl (hb hby d4_4) rfl ?_
    show Steps _ _ _ (T1.setTop (mkF m 7 #[vR a1] [])) _
    refine XS.iconst X1.here hx rfl (hb hby d4_7) ?_
    show Steps _ _ _ (T1.setTop (mkF m 8 #[vR a1] [iI 1])) _
    refine XS.goto X1.here hx rfl (pc0 := 8) (pc' := 12) rfl (hb hby d4_8) (by decide) (by decide) ?_
    show Steps _ _ _ (T1.setTop (mkF m 12 #[vR a1] [iI 1])) _
    exact retN X1 hx (t := .boolean) Bd.returns (by simp) (hb hby d4_12) hr
  · show Q4_s Z a1 b4 h0 _ T1.heap _
    rw [e1]
    exact ⟨rfl, rfl, rfl⟩
theorem d4_11 : decode prog_39_method_3_code 11 = .ok (.iconst 0, 1) := by decide +kernel
theorem ef_4_n (m : MethodId) (x0 : Addr) : entryFrame m #[(.ref x0)] 1 = mkF m 0 #[.val (.ref x0)] [] := by first | (simp [entryFrame, mkF, argsToLocals, Value.category]; done) | rfl
def Q4_n (Z : State) (a1 : Addr) (h0 : Heap) (v : Option Value) (h : Heap) (L : List Loc) : Prop := v = some (.int (0 : Int32)) ∧ L = [] ∧ h = h0
set_option maxRecDepth 65536 in
set_option maxHeartbeats 40000000 in
theorem rm4_n (l : Launch) (Z : State) (a0 : Array Value) (hw : ∀ d ∈ tables_1, d.before a0 Z = true) (ws : List Jvm.Cond) (a1 : Addr) (h0 : Heap) (F_m : Fld Z h0 a1 "com/example/threefold/threefold/store/Device" "masterSecret" "[B" .null) :
    MetFree l (⟨"com/example/threefold/threefold/store/Device", "hasMasterSecret", "()Z"⟩ : MethodName) (head1 (Jvm.Cond.code (⟨"com/example/threefold/threefold/store/Device", "hasMasterSecret", "()Z"⟩ : MethodName) prog_39_method_3_code 1 (some .boolean) :: ws) ({ frames := 0, cells := 0, slots := 0, locals := 0 } : Room)) (fun a U => a = #[(.ref a1)] ∧ Z.Warmed39 U.vm ∧ U.heap = h0) (fun _ _ _ _ _ => True) (fun _ U o U' => ∃ v L, o = .returned v ∧ Q4_n Z a1 h0 v U'.heap L ∧ FrameEnd U o U' L ({ frames := 0, cells := 0, slots := 0, locals := 0 } : Room).cells ({ frames := 0, cells := 0, slots := 0, locals := 0 } : Room).slots) := by
  refine MetFree.of_bodySF (plainFor_of_name pn_1) hisR ?_
  intro p e s m args below meth c s₁ Bd hml0 hP hK
  obtain ⟨rfl, hZ, hh⟩ := hP
  have hx := Bd.exec
  have hby := Bd.bytes
  have hml : c.maxLocals = 1 := hml0
  have hown : s.vm.findClass "com/example/threefold/threefold/store/Device" = some m.cls := findClass_of_methodNamed Bd.named
  have hnm := (name_of_methodNamed Bd.named Bd.method).1
  have X0 : Stand p l e ({ frames := 0, cells := 0, slots := 0, locals := 0 } : Room) s m #[(.ref a1)] below meth c s₁ [] 0 0 := Stand.of_body Bd
  have e0 : s₁.heap = h0 := by rw [← hh, Bd.state]; rfl
  have pre0 : ∀ t, Steps p.tables e below (s₁.setTop (mkF m 0 #[.val (.ref a1)] [])) t → Steps p.tables e below (s₁.setTop (entryFrame m #[(.ref a1)] 1)) t := fun t k => castTop (ef_4_n m a1) k
  obtain ⟨T1, X1, e1, st1⟩ := getF X0 hx hZ hown (host := "") (Or.inl (hw _ (List.mem_of_getElem? (i := 19) rfl))) Via.refl e0 F_m (g := (mkF m 1 #[vR a1] [iR a1])) rfl rfl (hb hby d4_1)
  obtain ⟨fs, hr, hrun, hended, hW, hsame⟩ := X1.leave (v := some (.int (0 : Int32))) (fun h => by rw [Bd.returns] at h; cases h)
  refine ⟨_, _, pre0 _ ?_, hrun, hended, _, _, rfl, ?_, ⟨_, rfl⟩, hW, hsame.mono (by decide) (by decide)⟩
  · show Steps _ _ _ (s₁.setTop (mkF m 0 #[vR a1] [])) _
    refine XS.aloadN X0.here hx rfl (hb hby d4_0) rfl rfl ?_
    show Steps _ _ _ (s₁.setTop (mkF m 1 #[vR a1] [iR a1])) _
    refine st1 _ ?_
    show Steps _ _ _ (T1.setTop (mkF m 4 #[vR a1] [.null])) _
    refine XS.ifnullYes X1.here hx rfl (pc0 := 4) (pc' := 11) rfl (hb hby d4_4) rfl (by decide) (by decide) ?_
    show Steps _ _ _ (T1.setTop (mkF m 11 #[vR a1] [])) _
    refine XS.iconst X1.here hx rfl (hb hby d4_11) ?_
    show Steps _ _ _ (T1.setTop (mkF m 12 #[vR a1] [iI 0])) _
    exact retN X1 hx (t := .boolean) Bd.returns (by simp) (hb hby d4_12) hr
  · show Q4_n Z a1 h0 _ T1.heap _
    rw [e1]
    exact ⟨rfl, rfl, rfl⟩
theorem d5_0 : decode prog_39_method_4_code 0 = .ok (.aload_n 0, 1) := by decide +kernel
theorem d5_1 : decode prog_39_method_4_code 1 = .ok (.invokevirtual 33, 3) := by decide +kernel
theorem d5_4 : decode prog_39_method_4_code 4 = .ok (.ifCond .eq 8, 3) := by decide +kernel
theorem d5_7 : decode prog_39_method_4_code 7 = .ok (.aload_n 0, 1) := by decide +kernel
theorem d5_8 : decode prog_39_method_4_code 8 = .ok (.astore_n 1, 1) := by decide +kernel
theorem d5_9 : decode prog_39_method_4_code 9 = .ok (.goto 34, 3) := by decide +kernel
theorem d5_43 : decode prog_39_method_4_code 43 = .ok (.aload_n 1, 1) := by decide +kernel
theorem d5_44 : decode prog_39_method_4_code 44 = .ok (.areturn, 1) := by decide +kernel
theorem ef_5 (m : MethodId) (x0 : Addr) : entryFrame m #[(.ref x0)] 2 = mkF m 0 #[.val (.ref x0), .unset] [] := by first | (simp [entryFrame, mkF, argsToLocals, Value.category]; done) | rfl
def Q5 (Z : State) (a1 : Addr) (b4 : Addr) (h0 : Heap) (v : Option Value) (h : Heap) (L : List Loc) : Prop := v = some (.ref a1) ∧ L = [] ∧ h = h0
set_option maxRecDepth 65536 in
set_option maxHeartbeats 40000000 in
theorem rm5 (l : Launch) (Z : State) (a0 : Array Value) (hw : ∀ d ∈ tables_1, d.before a0 Z = true) (ws : List Jvm.Cond) (a1 : Addr) (b4 : Addr) (h0 : Heap) (E_a1 : Exa Z h0 a1 "com/example/threefold/threefold/store/Device") (F_m : Fld Z h0 a1 "com/example/threefold/threefold/store/Device" "masterSecret" "[B" (.ref b4)) :
    MetFree l (⟨"com/example/threefold/threefold/store/Device", "withMasterSecret", "()Lcom/example/threefold/threefold/store/Device;"⟩ : MethodName) (head1 (Jvm.Cond.code (⟨"com/example/threefold/threefold/store/Device", "withMasterSecret", "()Lcom/example/threefold/threefold/store/Device;"⟩ : MethodName) prog_39_method_4_code 2 (some (.object "com/example/threefold/threefold/store/Device")) :: ws) ({ frames := 1, cells := 0, slots := 0, locals := 12 } : Room)) (fun a U => a = #[(.ref a1)] ∧ Z.Warmed39 U.vm ∧ U.heap = h0) (fun _ _ _ _ _ => True) (fun _ U o U' => ∃ v L, o = .returned v ∧ Q5 Z a1 b4 h0 v U'.heap L ∧ FrameEnd U o U' L ({ frames := 1, cells := 0, slots := 0, locals := 12 } : Room).cells ({ frames := 1, cells := 0, slots := 0, locals := 12 } : Room).slots) := by
  refine MetFree.of_bodySF (plainFor_of_name pn_1) hisR ?_
  intro p e s m args below meth c s₁ Bd hml0 hP hK
  obtain ⟨rfl, hZ, hh⟩ := hP
  have hx := Bd.exec
  have hby := Bd.bytes
  have hml : c.maxLocals = 2 := hml0
  have hown : s.vm.findClass "com/example/threefold/threefold/store/Device" = some m.cls := findClass_of_methodNamed Bd.named
  have hnm := (name_of_methodNamed Bd.named Bd.method).1
  have X0 : Stand p l e ({ frames := 1, cells := 0, slots := 0, locals := 12 } : Room) s m #[(.ref a1)] below meth c s₁ [] 0 0 := Stand.of_body Bd
  have e0 : s₁.heap = h0 := by rw [← hh, Bd.state]; rfl
  have pre0 : ∀ t, Steps p.tables e below (s₁.setTop (mkF m 0 #[.val (.ref a1), .unset] [])) t → Steps p.tables e below (s₁.setTop (entryFrame m #[(.ref a1)] 2)) t := fun t k => castTop (ef_5 m a1) k
  obtain ⟨cq1, kq1, q1a, q1b, q1c⟩ := isOf hZ e0 E_a1
  obtain ⟨_, _, ⟨T1, L1, k1, n1⟩, -, X1, ⟨Lc1, hQ1, l1, y1, z1⟩, st1⟩ := X0.virtualBack hx (y := (⟨"com/example/threefold/threefold/store/Device", "hasMasterSecret", "()Z"⟩ : MethodName)) (z := (⟨"com/example/threefold/threefold/store/Device", "hasMasterSecret", "()Z"⟩ : MethodName)) hown (mvT hZ (hw _ (List.mem_of_getElem? (i := 35) rfl))) (mvT hZ (hw _ (List.mem_of_getElem? (i := 26) rfl))) (notFace_of_selects (args := #[]) (mvT hZ (hw _ (List.mem_of_getElem? (i := 28) rfl)))) (mvT hZ (hw _ (List.mem_of_getElem? (i := 28) rfl))) (mvT hZ (hw _ (List.mem_of_getElem? (i := 27) rfl))) (by decide) (backOf (W := 0) (rm4_s l Z a0 hw [] a1 b4 h0 F_m) hZ (hw _ (List.mem_of_getElem? (i := 29) rfl)) (hw _ (List.mem_of_getElem? (i := 2) rfl)) (by decide) (by decide)) q1a q1c (g := (mkF m 1 #[vR a1, .unset] [iR a1])) rfl (by rw [hml]; rfl) (Steps.refl _) (argsL := []) (rest := []) (lenOf pd_1 rfl) rfl (by show 2 * 0 + _ ≤ _; exact Nat.le_of_eq rfl) (hb hby d5_1) (fun _ _ => ⟨rfl, e0, (by decide : 0 + 0 ≤ _), (by decide : 0 + 0 ≤ _)⟩)
  dsimp only [Pt.U, Pt.locs, Pt.cells, Pt.slots] at X1 l1 y1 z1 st1 hQ1
  subst l1 y1 z1
  obtain ⟨rfl, rfl, e1⟩ := hQ1
  try rw [List.append_nil] at X1
  obtain ⟨fs, hr, hrun, hended, hW, hsame⟩ := X1.leave (v := some (.ref a1)) (fun h => by rw [Bd.returns] at h; cases h)
  refine ⟨_, _, pre0 _ ?_, hrun, hended, _, _, rfl, ?_, ⟨_, rfl⟩, hW, hsame.mono (by decide) (by decide)⟩
  · show Steps _ _ _ (s₁.setTop (mkF m 0 #[vR a1, .unset] [])) _
    refine XS.aloadN X0.here hx rfl (hb hby d5_0) rfl rfl ?_
    show Steps _ _ _ (s₁.setTop (mkF m 1 #[vR a1, .unset] [iR a1])) _
    refine st1.trans ?_
    show Steps _ _ _ (T1.setTop (mkF m 4 #[vR a1, .unset] [iI 1])) _
    refine XS.ifNo X1.here hx rfl (hb hby d5_4) rfl ((if0 _ _).trans (feq (by decide : ¬ ((1 : Int32) = (0 : Int32)))).1) ?_
    show Steps _ _ _ (T1.setTop (mkF m 7 #[vR a1, .unset] [])) _
    refine XS.aloadN X1.here hx rfl (hb hby d5_7) rfl rfl ?_
    show Steps _ _ _ (T1.setTop (mkF m 8 #[vR a1, .unset] [iR a1])) _
    refine XS.astoreN X1.here hx rfl (hb hby d5_8) rfl rfl (l' := #[vR a1, vR a1]) rfl ?_
    show Steps _ _ _ (T1.setTop (mkF m 9 #[vR a1, vR a1] [])) _
    refine XS.goto X1.here hx rfl (pc0 := 9) (pc' := 43) rfl (hb hby d5_9) (by decide) (by decide) ?_
    show Steps _ _ _ (T1.setTop (mkF m 43 #[vR a1, vR a1] [])) _
    refine XS.aloadN X1.here hx rfl (hb hby d5_43) rfl rfl ?_
    show Steps _ _ _ (T1.setTop (mkF m 44 #[vR a1, vR a1] [iR a1])) _
    jvm_step X1.here [X1.here.top, hx, (hb hby d5_44), X1.method', Bd.returns, Value.isRef, FieldType.isReference]
    first | (intro acts; rw [hr _ acts rfl rfl rfl]) | rw [hr _ _ rfl rfl rfl]
    exact Steps.refl _
  · show Q5 Z a1 b4 h0 _ T1.heap _
    rw [e1]
    exact ⟨rfl, rfl, rfl⟩
theorem d8_0 : decode prog_6_method_1_code 0 = .ok (.aload_n 0, 1) := by decide +kernel
theorem d8_1 : decode prog_6_method_1_code 1 = .ok (.invokespecial 1, 3) := by decide +kernel
theorem d8_4 : decode prog_6_method_1_code 4 = .ok (.aload_n 0, 1) := by decide +kernel
theorem d8_5 : decode prog_6_method_1_code 5 = .ok (.aload_n 1, 1) := by decide +kernel
theorem d8_6 : decode prog_6_method_1_code 6 = .ok (.putfield 7, 3) := by decide +kernel
theorem d8_9 : decode prog_6_method_1_code 9 = .ok (.return_, 1) := by decide +kernel
theorem pn_2 : plainName "com/example/threefold/threefold/protocol/ActivationKeys" = true := by first | (simp [plainName, overriddenIn]; done) | decide +kernel
theorem ef_8 (m : MethodId) (x0 : Addr) (x1 : Addr) : entryFrame m #[(.ref x0), (.ref x1)] 2 = mkF m 0 #[.val (.ref x0), .val (.ref x1)] [] := by first | (simp [entryFrame, mkF, argsToLocals, Value.category]; done) | rfl
def Q8 (Z : State) (a1 : Addr) (a2 : Addr) (h0 : Heap) (n0 : Nat) (v : Option Value) (h : Heap) (L : List Loc) : Prop := v = none ∧ Fr n0 L ∧ Keep h0 h [a1] ∧ Exa Z h a1 "com/example/threefold/threefold/protocol/ActivationKeys" ∧ Fld Z h a1 "com/example/threefold/threefold/protocol/ActivationKeys" "masterSecret" "[B" (.ref a2)
set_option maxRecDepth 65536 in
set_option maxHeartbeats 40000000 in
theorem rm8 (l : Launch) (Z : State) (a0 : Array Value) (hw : ∀ d ∈ tables_1, d.before a0 Z = true) (ws : List Jvm.Cond) (a1 : Addr) (a2 : Addr) (h0 : Heap) (n0 : Nat) (Z0 : n0 ≤ h0.size) (E_a1 : Exa Z h0 a1 "com/example/threefold/threefold/protocol/ActivationKeys") (g_a1 : n0 ≤ a1) (F_m : Fld Z h0 a1 "com/example/threefold/threefold/protocol/ActivationKeys" "masterSecret" "[B" .null) :
    MetFree l (⟨"com/example/threefold/threefold/protocol/ActivationKeys", "<init>", "([B)V"⟩ : MethodName) (head1 (Jvm.Cond.code (⟨"com/example/threefold/threefold/protocol/ActivationKeys", "<init>", "([B)V"⟩ : MethodName) prog_6_method_1_code 2 none :: ws) ({ frames := 1, cells := 0, slots := 0, locals := 12 } : Room)) (fun a U => a = #[(.ref a1), (.ref a2)] ∧ Z.Warmed39 U.vm ∧ U.heap = h0) (fun _ _ _ _ _ => True) (fun _ U o U' => ∃ v L, o = .returned v ∧ Q8 Z a1 a2 h0 n0 v U'.heap L ∧ FrameEnd U o U' L ({ frames := 1, cells := 0, slots := 0, locals := 12 } : Room).cells ({ frames := 1, cells := 0, slots := 0, locals := 12 } : Room).slots) := by
  refine MetFree.of_bodySF (plainFor_of_name pn_2) hisR ?_
  intro p e s m args below meth c s₁ Bd hml0 hP hK
  obtain ⟨rfl, hZ, hh⟩ := hP
  have hx := Bd.exec
  have hby := Bd.bytes
  have hml : c.maxLocals = 2 := hml0
  have hown : s.vm.findClass "com/example/threefold/threefold/protocol/ActivationKeys" = some m.cls := findClass_of_methodNamed Bd.named
  have hnm := (name_of_methodNamed Bd.named Bd.method).1
  have X0 : Stand p l e ({ frames := 1, cells := 0, slots := 0, locals := 12 } : Room) s m #[(.ref a1), (.ref a2)] below meth c s₁ [] 0 0 := Stand.of_body Bd
  have e0 : s₁.heap = h0 := by rw [← hh, Bd.state]; rfl
  have N0 := Fr.nil n0
  have K0 := Keep.refl h0 [a1]
  have pre0 : ∀ t, Steps p.tables e below (s₁.setTop (mkF m 0 #[.val (.ref a1), .val (.ref a2)] [])) t → Steps p.tables e below (s₁.setTop (entryFrame m #[(.ref a1), (.ref a2)] 2)) t := fun t k => castTop (ef_8 m a1 a2) k
  obtain ⟨T1, X1, e1, st1⟩ := initO X0 hx hZ hown (hw _ (List.mem_of_getElem? (i := 59) rfl)) (hw _ (List.mem_of_getElem? (i := 13) rfl)) (hw _ (List.mem_of_getElem? (i := 14) rfl)) e0 (g := (mkF m 1 #[vR a1, vR a2] [iR a1])) rfl (by rw [hml]; rfl) rfl (hb hby d8_1) (by decide) (W := 0) (by show 2 * 0 + _ ≤ _; exact Nat.le_of_eq rfl) (by decide)
  obtain ⟨T2, h2, X2, e2, W2, st2⟩ := putF X1 hx hZ hown (host := "") (Or.inl (hw _ (List.mem_of_getElem? (i := 60) rfl))) Via.refl e1 F_m E_a1 (Or.inr ⟨(hw _ (List.mem_of_getElem? (i := 61) rfl)), rfl, hnm⟩) (hw _ (List.mem_of_getElem? (i := 46) rfl)) (ty := (.array .byte)) (by decide) rfl rfl (g := (mkF m 6 #[vR a1, vR a2] [iR a2, iR a1])) rfl rfl (hb hby d8_6)
  have Fw2 := F_m.same W2
  have K2 : Keep h0 h2 [a1] := K0.wr W2 (Or.inl (List.mem_of_getElem? (i := 0) rfl))
  have N2 := Fr.snoc X2 N0 g_a1
  obtain ⟨fs, hr, hrun, hended, hW, hsame⟩ := X2.leave (v := none) (fun _ => rfl)
  have fk3 := (E_a1.wr W2)
  refine ⟨_, _, pre0 _ ?_, hrun, hended, _, _, rfl, ?_, ⟨_, rfl⟩, hW, hsame.mono (by decide) (by decide)⟩
  · show Steps _ _ _ (s₁.setTop (mkF m 0 #[vR a1, vR a2] [])) _
    refine XS.aloadN X0.here hx rfl (hb hby d8_0) rfl rfl ?_
    show Steps _ _ _ (s₁.setTop (mkF m 1 #[vR a1, vR a2] [iR a1])) _
    refine st1 _ ?_
    show Steps _ _ _ (T1.setTop (mkF m 4 #[vR a1, vR a2] [])) _
    refine XS.aloadN X1.here hx rfl (hb hby d8_4) rfl rfl ?_
    show Steps _ _ _ (T1.setTop (mkF m 5 #[vR a1, vR a2] [iR a1])) _
    refine XS.aloadN X1.here hx rfl (hb hby d8_5) rfl rfl ?_
    show Steps _ _ _ (T1.setTop (mkF m 6 #[vR a1, vR a2] [iR a2, iR a1])) _
    refine st2 _ ?_
    show Steps _ _ _ (T2.setTop (mkF m 9 #[vR a1, vR a2] [])) _
    exact X2.returnOut hx Bd.returns (hb hby d8_9) hr
  · show Q8 Z a1 a2 h0 n0 _ T2.heap _
    rw [e2]
    exact ⟨rfl, N2, K2, fk3, Fw2⟩
theorem d7_0 : decode prog_6_method_3_code 0 = .ok (.aload_n 0, 1) := by decide +kernel
theorem d7_1 : decode prog_6_method_3_code 1 = .ok (.arraylength, 1) := by decide +kernel
theorem d7_2 : decode prog_6_method_3_code 2 = .ok (.bipush 16, 2) := by decide +kernel
theorem d7_4 : decode prog_6_method_3_code 4 = .ok (.if_icmp .eq 13, 3) := by decide +kernel
theorem d7_17 : decode prog_6_method_3_code 17 = .ok (.new 8, 3) := by decide +kernel
theorem d7_20 : decode prog_6_method_3_code 20 = .ok (.dup, 1) := by decide +kernel
theorem d7_21 : decode prog_6_method_3_code 21 = .ok (.aload_n 0, 1) := by decide +kernel
theorem d7_22 : decode prog_6_method_3_code 22 = .ok (.invokevirtual 29, 3) := by decide +kernel
theorem d7_25 : decode prog_6_method_3_code 25 = .ok (.checkcast 30, 3) := by decide +kernel
theorem d7_28 : decode prog_6_method_3_code 28 = .ok (.invokespecial 19, 3) := by decide +kernel
theorem d7_31 : decode prog_6_method_3_code 31 = .ok (.areturn, 1) := by decide +kernel
theorem ef_7 (m : MethodId) (x0 : Addr) : entryFrame m #[(.ref x0)] 1 = mkF m 0 #[.val (.ref x0)] [] := by first | (simp [entryFrame, mkF, argsToLocals, Value.category]; done) | rfl
def Q7 (Z : State) (a1 : Addr) (y0 : Int32) (kk : ClassId) (h0 : Heap) (n0 : Nat) (v : Option Value) (h : Heap) (L : List Loc) : Prop := ∃ (o b : Addr), v = some (.ref o) ∧ Fr n0 L ∧ Keep h0 h [] ∧ Exa Z h o "com/example/threefold/threefold/protocol/ActivationKeys" ∧ Fld Z h o "com/example/threefold/threefold/protocol/ActivationKeys" "masterSecret" "[B" (.ref b) ∧ Arv Z h b kk .byte (16 : Int32) [(.int y0)] (.int (0 : Int32)) ∧ Exa Z h b "[B"
set_option maxRecDepth 65536 in
set_option maxHeartbeats 40000000 in
theorem rm7 (l : Launch) (Z : State) (a0 : Array Value) (hw : ∀ d ∈ tables_1, d.before a0 Z = true) (ws : List Jvm.Cond) (a1 : Addr) (y0 : Int32) (kk : ClassId) (h0 : Heap) (n0 : Nat) (Z0 : n0 ≤ h0.size) (V_a : Arv Z h0 a1 kk .byte (16 : Int32) [(.int y0)] (.int (0 : Int32))) (E_a : Exa Z h0 a1 "[B") :
    MetFree l (⟨"com/example/threefold/threefold/protocol/ActivationKeys", "of", "([B)Lcom/example/threefold/threefold/protocol/ActivationKeys;"⟩ : MethodName) (head1 (Jvm.Cond.code (⟨"com/example/threefold/threefold/protocol/ActivationKeys", "of", "([B)Lcom/example/threefold/threefold/protocol/ActivationKeys;"⟩ : MethodName) prog_6_method_3_code 1 (some (.object "com/example/threefold/threefold/protocol/ActivationKeys")) :: ws) ({ frames := 2, cells := 2, slots := 17, locals := 26 } : Room)) (fun a U => a = #[(.ref a1)] ∧ Z.Warmed39 U.vm ∧ U.heap = h0) (fun _ _ _ _ _ => True) (fun _ U o U' => ∃ v L, o = .returned v ∧ Q7 Z a1 y0 kk h0 n0 v U'.heap L ∧ FrameEnd U o U' L ({ frames := 2, cells := 2, slots := 17, locals := 26 } : Room).cells ({ frames := 2, cells := 2, slots := 17, locals := 26 } : Room).slots) := by
  refine MetFree.of_bodySF (plainFor_of_name pn_2) hisR ?_
  intro p e s m args below meth c s₁ Bd hml0 hP hK
  obtain ⟨rfl, hZ, hh⟩ := hP
  have hx := Bd.exec
  have hby := Bd.bytes
  have hml : c.maxLocals = 1 := hml0
  have hown : s.vm.findClass "com/example/threefold/threefold/protocol/ActivationKeys" = some m.cls := findClass_of_methodNamed Bd.named
  have hnm := (name_of_methodNamed Bd.named Bd.method).1
  have X0 : Stand p l e ({ frames := 2, cells := 2, slots := 17, locals := 26 } : Room) s m #[(.ref a1)] below meth c s₁ [] 0 0 := Stand.of_body Bd
  have e0 : s₁.heap = h0 := by rw [← hh, Bd.state]; rfl
  have N0 := Fr.nil n0
  have K0 := Keep.refl h0 []
  have pre0 : ∀ t, Steps p.tables e below (s₁.setTop (mkF m 0 #[.val (.ref a1)] [])) t → Steps p.tables e below (s₁.setTop (entryFrame m #[(.ref a1)] 1)) t := fun t k => castTop (ef_7 m a1) k
  obtain ⟨cl1, Ar1, q1, S1, M1, H1, G1⟩ := id V_a
  obtain ⟨T2, h2, X2, e2, E2, A2, D2, -, st2⟩ := newO X0 hx hZ hown (hw _ (List.mem_of_getElem? (i := 45) rfl)) (hw _ (List.mem_of_getElem? (i := 46) rfl)) (hw _ (List.mem_of_getElem? (i := 43) rfl)) e0 (g := (mkF m 17 #[vR a1] [])) rfl (hb hby d7_17) (by decide) (by decide)
  obtain ⟨b2, g2⟩ : ∃ z, z = h0.size := ⟨_, rfl⟩
  rw [← g2] at A2 D2 st2
  have ne_a1_b2 : a1 ≠ b2 := Nat.ne_of_lt (Nat.lt_of_lt_of_le V_a.lt (Nat.le_of_eq g2.symm))
  have sz_b2 : h0.size ≤ b2 := Nat.le_trans K0.1 (Nat.le_of_eq g2.symm)
  have g_b2 : n0 ≤ b2 := Nat.le_trans Z0 sz_b2
  have K2 : Keep h0 h2 [] := K0.ext E2
  have F_masterSecret_b2 : Fld Z h2 b2 "com/example/threefold/threefold/protocol/ActivationKeys" "masterSecret" "[B" .null := D2 (Or.inr (hw _ (List.mem_of_getElem? (i := 61) rfl))) (ty := (.array .byte)) (by decide)
  have fk3 := (V_a.ext E2)
  have fk4 := (E_a.ext E2)
  obtain ⟨T5, h5, X5, e5, E5, A5, B5, st5⟩ := cloneH X2 hx hZ hown (hw _ (List.mem_of_getElem? (i := 47) rfl)) (hw _ (List.mem_of_getElem? (i := 48) rfl)) (hw _ (List.mem_of_getElem? (i := 52) rfl)) (hw _ (List.mem_of_getElem? (i := 50) rfl)) (hw _ (List.mem_of_getElem? (i := 51) rfl)) (hw _ (List.mem_of_getElem? (i := 53) rfl)) e2 fk3.arh fk4 (g := (mkF m 22 #[vR a1] [iR a1, iR b2, iR b2])) rfl (by rw [hml]; rfl) rfl (hb hby d7_22) (by decide) (W := 2) (cap := 16) (by show 2 * 0 + _ ≤ _; exact Nat.le_of_eq rfl) (by decide) (by decide) (by decide) (by decide)
  obtain ⟨b5, g5⟩ : ∃ z, z = h2.size := ⟨_, rfl⟩
  rw [← g5] at A5 B5 st5
  have ne_a1_b5 : a1 ≠ b5 := Nat.ne_of_lt (Nat.lt_of_lt_of_le fk3.lt (Nat.le_of_eq g5.symm))
  have ne_b2_b5 : b2 ≠ b5 := Nat.ne_of_lt (Nat.lt_of_lt_of_le A2.lt (Nat.le_of_eq g5.symm))
  have sz_b5 : h0.size ≤ b5 := Nat.le_trans K2.1 (Nat.le_of_eq g5.symm)
  have g_b5 : n0 ≤ b5 := Nat.le_trans Z0 sz_b5
  have K5 : Keep h0 h5 [] := K2.ext E5
  have V5 : Arv Z h5 b5 kk .byte (16 : Int32) [(.int y0)] (.int (0 : Int32)) := A5
  obtain ⟨T6, X6, e6, st6⟩ := castY X5 hx hZ hown (hw _ (List.mem_of_getElem? (i := 54) rfl)) e5 (Ins.self B5) (g := (mkF m 25 #[vR a1] [iR b5, iR b2, iR b2])) rfl rfl (hb hby d7_25)
  have fk8 := (A2.ext E5)
  have fk9 := (F_masterSecret_b2.ext E5)
  obtain ⟨_, _, ⟨T7, L7, k7, n7⟩, -, X7, ⟨Lc7, hQ7, l7, y7, z7⟩, st7⟩ := X6.specialBack hx (y := (⟨"com/example/threefold/threefold/protocol/ActivationKeys", "<init>", "([B)V"⟩ : MethodName)) rfl hown (mvT hZ (hw _ (List.mem_of_getElem? (i := 56) rfl))) (mvT hZ (hw _ (List.mem_of_getElem? (i := 57) rfl))) (mvT hZ (hw _ (List.mem_of_getElem? (i := 58) rfl))) (by decide) (backOf (W := 1) (rm8 l Z a0 hw [] b2 b5 h5 n0 (Nat.le_trans Z0 K5.1) fk8 g_b2 fk9) hZ (hw _ (List.mem_of_getElem? (i := 58) rfl)) (hw _ (List.mem_of_getElem? (i := 43) rfl)) (by decide) (by decide)) (g := (mkF m 28 #[vR a1] [iR b5, iR b2, iR b2])) rfl (by rw [hml]; rfl) (Steps.refl _) (a := b2) (argsL := [(.ref b5)]) (rest := [(.ref b2)]) (lenOf pd_2 rfl) rfl (by show 2 * 0 + _ ≤ _; exact Nat.le_of_eq rfl) (hb hby d7_28) (fun _ _ => ⟨rfl, e6, (by decide : 2 + 0 ≤ _), (by decide : 17 + 0 ≤ _)⟩)
  dsimp only [Pt.U, Pt.locs, Pt.cells, Pt.slots] at X7 l7 y7 z7 st7 hQ7
  subst l7 y7 z7
  obtain ⟨rfl, N7q, K7q, E7q, F7q⟩ := hQ7
  have N7 := Fr.app N0 N7q
  have K7 : Keep h0 T7.heap [] := Keep.trans K5 K7q (allS (Or.inr sz_b2) all0)
  obtain ⟨fs, hr, hrun, hended, hW, hsame⟩ := X7.leave (v := some (.ref b2)) (fun h => by rw [Bd.returns] at h; cases h)
  have fk10 := (V5.keep K7q (ninS (Ne.symm ne_b2_b5) nin0))
  have fk11 := (B5.keep K7q)
  refine ⟨_, _, pre0 _ ?_, hrun, hended, _, _, rfl, ?_, ⟨_, rfl⟩, hW, hsame.mono (by decide) (by decide)⟩
  · show Steps _ _ _ (s₁.setTop (mkF m 0 #[vR a1] [])) _
    refine XS.aloadN X0.here hx rfl (hb hby d7_0) rfl rfl ?_
    show Steps _ _ _ (s₁.setTop (mkF m 1 #[vR a1] [iR a1])) _
    refine X0.arraylength hx (by rw [e0]; exact Ar1.1) (State.isArrayOf_alike hZ.alike Ar1.2.1) (g := (mkF m 1 #[vR a1] [iR a1])) rfl rfl (hb hby d7_1) _ ?_
    rw [len_of S1 M1]
    show Steps _ _ _ (s₁.setTop (mkF m 2 #[vR a1] [iI 16])) _
    refine XS.bipush X0.here hx rfl (hb hby d7_2) ?_
    show Steps _ _ _ (s₁.setTop (mkF m 4 #[vR a1] [iI 16, iI 16])) _
    refine XS.icmpYes X0.here hx rfl (pc0 := 4) (pc' := 17) rfl (hb hby d7_4) rfl (teq (by decide : (16 : Int32) = (16 : Int32))).1 (by decide) (by decide) ?_
    show Steps _ _ _ (s₁.setTop (mkF m 17 #[vR a1] [])) _
    refine st2 _ ?_
    show Steps _ _ _ (T2.setTop (mkF m 20 #[vR a1] [iR b2])) _
    refine XS.dup X2.here hx rfl (hb hby d7_20) rfl rfl ?_
    show Steps _ _ _ (T2.setTop (mkF m 21 #[vR a1] [iR b2, iR b2])) _
    refine XS.aloadN X2.here hx rfl (hb hby d7_21) rfl rfl ?_
    show Steps _ _ _ (T2.setTop (mkF m 22 #[vR a1] [iR a1, iR b2, iR b2])) _
    refine st5 _ ?_
    show Steps _ _ _ (T5.setTop (mkF m 25 #[vR a1] [iR b5, iR b2, iR b2])) _
    refine st6 _ ?_
    show Steps _ _ _ (T6.setTop (mkF m 28 #[vR a1] [iR b5, iR b2, iR b2])) _
    refine st7.trans ?_
    show Steps _ _ _ (T7.setTop (mkF m 31 #[vR a1] [iR b2])) _
    jvm_step X7.here [X7.here.top, hx, (hb hby d7_31), X7.method', Bd.returns, Value.isRef, FieldType.isReference]
    first | (intro acts; rw [hr _ acts rfl rfl rfl]) | rw [hr _ _ rfl rfl rfl]
    exact Steps.refl _
  · show Q7 Z a1 y0 kk h0 n0 _ T7.heap _
    exact ⟨_, _, rfl, N7, K7, E7q, F7q, fk10, fk11⟩
theorem d6_0 : decode prog_39_method_5_code 0 = .ok (.aload_n 0, 1) := by decide +kernel
theorem d6_1 : decode prog_39_method_5_code 1 = .ok (.invokevirtual 33, 3) := by decide +kernel
theorem d6_4 : decode prog_39_method_5_code 4 = .ok (.ifCond .eq 14, 3) := by decide +kernel
theorem d6_7 : decode prog_39_method_5_code 7 = .ok (.aload_n 0, 1) := by decide +kernel
theorem d6_8 : decode prog_39_method_5_code 8 = .ok (.getfield 16, 3) := by decide +kernel
theorem d6_11 : decode prog_39_method_5_code 11 = .ok (.invokestatic 46, 3) := by decide +kernel
theorem d6_14 : decode prog_39_method_5_code 14 = .ok (.astore_n 1, 1) := by decide +kernel
theorem d6_15 : decode prog_39_method_5_code 15 = .ok (.goto 21, 3) := by decide +kernel
theorem d6_36 : decode prog_39_method_5_code 36 = .ok (.aload_n 1, 1) := by decide +kernel
theorem d6_37 : decode prog_39_method_5_code 37 = .ok (.areturn, 1) := by decide +kernel
theorem ef_6 (m : MethodId) (x0 : Addr) : entryFrame m #[(.ref x0)] 2 = mkF m 0 #[.val (.ref x0), .unset] [] := by first | (simp [entryFrame, mkF, argsToLocals, Value.category]; done) | rfl
def Q6 (Z : State) (a1 : Addr) (b4 : Addr) (y0 : Int32) (kk : ClassId) (h0 : Heap) (n0 : Nat) (v : Option Value) (h : Heap) (L : List Loc) : Prop := ∃ (o b : Addr), v = some (.ref o) ∧ Fr n0 L ∧ Keep h0 h [] ∧ Exa Z h o "com/example/threefold/threefold/protocol/ActivationKeys" ∧ Fld Z h o "com/example/threefold/threefold/protocol/ActivationKeys" "masterSecret" "[B" (.ref b) ∧ Arv Z h b kk .byte (16 : Int32) [(.int y0)] (.int (0 : Int32)) ∧ Exa Z h b "[B"
set_option maxRecDepth 65536 in
set_option maxHeartbeats 40000000 in
theorem rm6 (l : Launch) (Z : State) (a0 : Array Value) (hw : ∀ d ∈ tables_1, d.before a0 Z = true) (ws : List Jvm.Cond) (a1 : Addr) (b4 : Addr) (y0 : Int32) (kk : ClassId) (h0 : Heap) (n0 : Nat) (Z0 : n0 ≤ h0.size) (E_a1 : Exa Z h0 a1 "com/example/threefold/threefold/store/Device") (F_m : Fld Z h0 a1 "com/example/threefold/threefold/store/Device" "masterSecret" "[B" (.ref b4)) (V_b : Arv Z h0 b4 kk .byte (16 : Int32) [(.int y0)] (.int (0 : Int32))) (E_b : Exa Z h0 b4 "[B") :
    MetFree l (⟨"com/example/threefold/threefold/store/Device", "keys", "()Lcom/example/threefold/threefold/protocol/ActivationKeys;"⟩ : MethodName) (head1 (Jvm.Cond.code (⟨"com/example/threefold/threefold/store/Device", "keys", "()Lcom/example/threefold/threefold/protocol/ActivationKeys;"⟩ : MethodName) prog_39_method_5_code 2 (some (.object "com/example/threefold/threefold/protocol/ActivationKeys")) :: ws) ({ frames := 3, cells := 2, slots := 17, locals := 38 } : Room)) (fun a U => a = #[(.ref a1)] ∧ Z.Warmed39 U.vm ∧ U.heap = h0) (fun _ _ _ _ _ => True) (fun _ U o U' => ∃ v L, o = .returned v ∧ Q6 Z a1 b4 y0 kk h0 n0 v U'.heap L ∧ FrameEnd U o U' L ({ frames := 3, cells := 2, slots := 17, locals := 38 } : Room).cells ({ frames := 3, cells := 2, slots := 17, locals := 38 } : Room).slots) := by
  refine MetFree.of_bodySF (plainFor_of_name pn_1) hisR ?_
  intro p e s m args below meth c s₁ Bd hml0 hP hK
  obtain ⟨rfl, hZ, hh⟩ := hP
  have hx := Bd.exec
  have hby := Bd.bytes
  have hml : c.maxLocals = 2 := hml0
  have hown : s.vm.findClass "com/example/threefold/threefold/store/Device" = some m.cls := findClass_of_methodNamed Bd.named
  have hnm := (name_of_methodNamed Bd.named Bd.method).1
  have X0 : Stand p l e ({ frames := 3, cells := 2, slots := 17, locals := 38 } : Room) s m #[(.ref a1)] below meth c s₁ [] 0 0 := Stand.of_body Bd
  have e0 : s₁.heap = h0 := by rw [← hh, Bd.state]; rfl
  have N0 := Fr.nil n0
  have K0 := Keep.refl h0 []
  have pre0 : ∀ t, Steps p.tables e below (s₁.setTop (mkF m 0 #[.val (.ref a1), .unset] [])) t → Steps p.tables e below (s₁.setTop (entryFrame m #[(.ref a1)] 2)) t := fun t k => castTop (ef_6 m a1) k
  obtain ⟨cq1, kq1, q1a, q1b, q1c⟩ := isOf hZ e0 E_a1
  obtain ⟨_, _, ⟨T1, L1, k1, n1⟩, -, X1, ⟨Lc1, hQ1, l1, y1, z1⟩, st1⟩ := X0.virtualBack hx (y := (⟨"com/example/threefold/threefold/store/Device", "hasMasterSecret", "()Z"⟩ : MethodName)) (z := (⟨"com/example/threefold/threefold/store/Device", "hasMasterSecret", "()Z"⟩ : MethodName)) hown (mvT hZ (hw _ (List.mem_of_getElem? (i := 35) rfl))) (mvT hZ (hw _ (List.mem_of_getElem? (i := 26) rfl))) (notFace_of_selects (args := #[]) (mvT hZ (hw _ (List.mem_of_getElem? (i := 28) rfl)))) (mvT hZ (hw _ (List.mem_of_getElem? (i := 28) rfl))) (mvT hZ (hw _ (List.mem_of_getElem? (i := 27) rfl))) (by decide) (backOf (W := 0) (rm4_s l Z a0 hw [] a1 b4 h0 F_m) hZ (hw _ (List.mem_of_getElem? (i := 29) rfl)) (hw _ (List.mem_of_getElem? (i := 2) rfl)) (by decide) (by decide)) q1a q1c (g := (mkF m 1 #[vR a1, .unset] [iR a1])) rfl (by rw [hml]; rfl) (Steps.refl _) (argsL := []) (rest := []) (lenOf pd_1 rfl) rfl (by show 2 * 0 + _ ≤ _; exact Nat.le_of_eq rfl) (hb hby d6_1) (fun _ _ => ⟨rfl, e0, (by decide : 0 + 0 ≤ _), (by decide : 0 + 0 ≤ _)⟩)
  dsimp only [Pt.U, Pt.locs, Pt.cells, Pt.slots] at X1 l1 y1 z1 st1 hQ1
  subst l1 y1 z1
  obtain ⟨rfl, rfl, e1⟩ := hQ1
  try rw [List.append_nil] at X1
  obtain ⟨T2, X2, e2, st2⟩ := getF X1 hx hZ hown (host := "") (Or.inl (hw _ (List.mem_of_getElem? (i := 19) rfl))) Via.refl e1 F_m (g := (mkF m 8 #[vR a1, .unset] [iR a1])) rfl rfl (hb hby d6_8)
  obtain ⟨_, _, ⟨T3, L3, k3, n3⟩, -, X3, ⟨Lc3, hQ3, l3, y3, z3⟩, st3⟩ := Jvm.LawKit.callS X2 hx (y := (⟨"com/example/threefold/threefold/protocol/ActivationKeys", "of", "([B)Lcom/example/threefold/threefold/protocol/ActivationKeys;"⟩ : MethodName)) hown (mvT hZ (hw _ (List.mem_of_getElem? (i := 41) rfl))) (mvT hZ (hw _ (List.mem_of_getElem? (i := 42) rfl))) (mvT hZ (hw _ (List.mem_of_getElem? (i := 43) rfl))) (mvT hZ (hw _ (List.mem_of_getElem? (i := 44) rfl))) (by decide) (backOf (W := 0) (rm7 l Z a0 hw [] b4 y0 kk h0 n0 (Nat.le_trans Z0 K0.1) V_b E_b) hZ (hw _ (List.mem_of_getElem? (i := 44) rfl)) (hw _ (List.mem_of_getElem? (i := 43) rfl)) (by decide) (by decide)) (g := (mkF m 11 #[vR a1, .unset] [iR b4])) rfl (by rw [hml]; rfl) (argsL := [(.ref b4)]) (rest := []) (lenOf pd_3 rfl) rfl (by show 2 * 0 + _ ≤ _; exact Nat.le_of_eq rfl) (hb hby d6_11) (fun _ _ => ⟨rfl, e2, (by decide : 0 + 2 ≤ _), (by decide : 0 + 17 ≤ _)⟩)
  dsimp only [Pt.U, Pt.locs, Pt.cells, Pt.slots] at X3 l3 y3 z3 st3 hQ3
  subst l3 y3 z3
  obtain ⟨o3, c3, rfl, N3q, K3q, E3q, F3q, V3q, G3q⟩ := hQ3
  have N3 := Fr.app N0 N3q
  have K3 : Keep h0 T3.heap [] := Keep.trans K0 K3q all0
  obtain ⟨fs, hr, hrun, hended, hW, hsame⟩ := X3.leave (v := some (.ref o3)) (fun h => by rw [Bd.returns] at h; cases h)
  refine ⟨_, _, pre0 _ ?_, hrun, hended, _, _, rfl, ?_, ⟨_, rfl⟩, hW, hsame.mono (by decide) (by decide)⟩
  · show Steps _ _ _ (s₁.setTop (mkF m 0 #[vR a1, .unset] [])) _
    refine XS.aloadN X0.here hx rfl (hb hby d6_0) rfl rfl ?_
    show Steps _ _ _ (s₁.setTop (mkF m 1 #[vR a1, .unset] [iR a1])) _
    refine st1.trans ?_
    show Steps _ _ _ (T1.setTop (mkF m 4 #[vR a1, .unset] [iI 1])) _
    refine XS.ifNo X1.here hx rfl (hb hby d6_4) rfl ((if0 _ _).trans (feq (by decide : ¬ ((1 : Int32) = (0 : Int32)))).1) ?_
    show Steps _ _ _ (T1.setTop (mkF m 7 #[vR a1, .unset] [])) _
    refine XS.aloadN X1.here hx rfl (hb hby d6_7) rfl rfl ?_
    show Steps _ _ _ (T1.setTop (mkF m 8 #[vR a1, .unset] [iR a1])) _
    refine st2 _ ?_
    show Steps _ _ _ (T2.setTop (mkF m 11 #[vR a1, .unset] [iR b4])) _
    refine st3 _ ?_
    show Steps _ _ _ (T3.setTop (mkF m 14 #[vR a1, .unset] [iR o3])) _
    refine XS.astoreN X3.here hx rfl (hb hby d6_14) rfl rfl (l' := #[vR a1, vR o3]) rfl ?_
    show Steps _ _ _ (T3.setTop (mkF m 15 #[vR a1, vR o3] [])) _
    refine XS.goto X3.here hx rfl (pc0 := 15) (pc' := 36) rfl (hb hby d6_15) (by decide) (by decide) ?_
    show Steps _ _ _ (T3.setTop (mkF m 36 #[vR a1, vR o3] [])) _
    refine XS.aloadN X3.here hx rfl (hb hby d6_36) rfl rfl ?_
    show Steps _ _ _ (T3.setTop (mkF m 37 #[vR a1, vR o3] [iR o3])) _
    jvm_step X3.here [X3.here.top, hx, (hb hby d6_37), X3.method', Bd.returns, Value.isRef, FieldType.isReference]
    first | (intro acts; rw [hr _ acts rfl rfl rfl]) | rw [hr _ _ rfl rfl rfl]
    exact Steps.refl _
  · show Q6 Z a1 b4 y0 kk h0 n0 _ T3.heap _
    exact ⟨_, _, rfl, N3, K3, E3q, F3q, V3q, G3q⟩
theorem d9_0 : decode prog_6_method_4_code 0 = .ok (.aload_n 0, 1) := by decide +kernel
theorem d9_1 : decode prog_6_method_4_code 1 = .ok (.getfield 7, 3) := by decide +kernel
theorem d9_4 : decode prog_6_method_4_code 4 = .ok (.invokevirtual 29, 3) := by decide +kernel
theorem d9_7 : decode prog_6_method_4_code 7 = .ok (.checkcast 30, 3) := by decide +kernel
theorem d9_10 : decode prog_6_method_4_code 10 = .ok (.areturn, 1) := by decide +kernel
theorem ef_9 (m : MethodId) (x0 : Addr) : entryFrame m #[(.ref x0)] 1 = mkF m 0 #[.val (.ref x0)] [] := by first | (simp [entryFrame, mkF, argsToLocals, Value.category]; done) | rfl
def Q9 (Z : State) (a1 : Addr) (b4 : Addr) (y0 : Int32) (kk : ClassId) (h0 : Heap) (n0 : Nat) (v : Option Value) (h : Heap) (L : List Loc) : Prop := ∃ (b : Addr), v = some (.ref b) ∧ Fr n0 L ∧ Arv Z h b kk .byte (16 : Int32) [(.int y0)] (.int (0 : Int32))
set_option maxRecDepth 65536 in
set_option maxHeartbeats 40000000 in
theorem rm9 (l : Launch) (Z : State) (a0 : Array Value) (hw : ∀ d ∈ tables_1, d.before a0 Z = true) (ws : List Jvm.Cond) (a1 : Addr) (b4 : Addr) (y0 : Int32) (kk : ClassId) (h0 : Heap) (n0 : Nat) (Z0 : n0 ≤ h0.size) (F_m : Fld Z h0 a1 "com/example/threefold/threefold/protocol/ActivationKeys" "masterSecret" "[B" (.ref b4)) (V_b : Arv Z h0 b4 kk .byte (16 : Int32) [(.int y0)] (.int (0 : Int32))) (E_b : Exa Z h0 b4 "[B") :
    MetFree l (⟨"com/example/threefold/threefold/protocol/ActivationKeys", "masterSecret", "()[B"⟩ : MethodName) (head1 (Jvm.Cond.code (⟨"com/example/threefold/threefold/protocol/ActivationKeys", "masterSecret", "()[B"⟩ : MethodName) prog_6_method_4_code 1 (some (.array .byte)) :: ws) ({ frames := 1, cells := 1, slots := 16, locals := 14 } : Room)) (fun a U => a = #[(.ref a1)] ∧ Z.Warmed39 U.vm ∧ U.heap = h0) (fun _ _ _ _ _ => True) (fun _ U o U' => ∃ v L, o = .returned v ∧ Q9 Z a1 b4 y0 kk h0 n0 v U'.heap L ∧ FrameEnd U o U' L ({ frames := 1, cells := 1, slots := 16, locals := 14 } : Room).cells ({ frames := 1, cells := 1, slots := 16, locals := 14 } : Room).slots) := by
  refine MetFree.of_bodySF (plainFor_of_name pn_2) hisR ?_
  intro p e s m args below meth c s₁ Bd hml0 hP hK
  obtain ⟨rfl, hZ, hh⟩ := hP
  have hx := Bd.exec
  have hby := Bd.bytes
  have hml : c.maxLocals = 1 := hml0
  have hown : s.vm.findClass "com/example/threefold/threefold/protocol/ActivationKeys" = some m.cls := findClass_of_methodNamed Bd.named
  have hnm := (name_of_methodNamed Bd.named Bd.method).1
  have X0 : Stand p l e ({ frames := 1, cells := 1, slots := 16, locals := 14 } : Room) s m #[(.ref a1)] below meth c s₁ [] 0 0 := Stand.of_body Bd
  have e0 : s₁.heap = h0 := by rw [← hh, Bd.state]; rfl
  have N0 := Fr.nil n0
  have K0 := Keep.refl h0 []
  have pre0 : ∀ t, Steps p.tables e below (s₁.setTop (mkF m 0 #[.val (.ref a1)] [])) t → Steps p.tables e below (s₁.setTop (entryFrame m #[(.ref a1)] 1)) t := fun t k => castTop (ef_9 m a1) k
  obtain ⟨T1, X1, e1, st1⟩ := getF X0 hx hZ hown (host := "") (Or.inl (hw _ (List.mem_of_getElem? (i := 60) rfl))) Via.refl e0 F_m (g := (mkF m 1 #[vR a1] [iR a1])) rfl rfl (hb hby d9_1)
  obtain ⟨T2, h2, X2, e2, E2, A2, B2, st2⟩ := cloneH X1 hx hZ hown (hw _ (List.mem_of_getElem? (i := 47) rfl)) (hw _ (List.mem_of_getElem? (i := 48) rfl)) (hw _ (List.mem_of_getElem? (i := 52) rfl)) (hw _ (List.mem_of_getElem? (i := 50) rfl)) (hw _ (List.mem_of_getElem? (i := 51) rfl)) (hw _ (List.mem_of_getElem? (i := 53) rfl)) e1 V_b.arh E_b (g := (mkF m 4 #[vR a1] [iR b4])) rfl (by rw [hml]; rfl) rfl (hb hby d9_4) (by decide) (W := 0) (cap := 16) (by show 2 * 0 + _ ≤ _; exact Nat.le_of_eq rfl) (by decide) (by decide) (by decide) (by decide)
  obtain ⟨b2, g2⟩ : ∃ z, z = h0.size := ⟨_, rfl⟩
  rw [← g2] at A2 B2 st2
  have ne_a1_b2 : a1 ≠ b2 := Nat.ne_of_lt (Nat.lt_of_lt_of_le F_m.lt (Nat.le_of_eq g2.symm))
  have ne_b4_b2 : b4 ≠ b2 := Nat.ne_of_lt (Nat.lt_of_lt_of_le V_b.lt (Nat.le_of_eq g2.symm))
  have sz_b2 : h0.size ≤ b2 := Nat.le_trans K0.1 (Nat.le_of_eq g2.symm)
  have g_b2 : n0 ≤ b2 := Nat.le_trans Z0 sz_b2
  have K2 : Keep h0 h2 [] := K0.ext E2
  have V2 : Arv Z h2 b2 kk .byte (16 : Int32) [(.int y0)] (.int (0 : Int32)) := A2
  obtain ⟨T3, X3, e3, st3⟩ := castY X2 hx hZ hown (hw _ (List.mem_of_getElem? (i := 54) rfl)) e2 (Ins.self B2) (g := (mkF m 7 #[vR a1] [iR b2])) rfl rfl (hb hby d9_7)
  obtain ⟨fs, hr, hrun, hended, hW, hsame⟩ := X3.leave (v := some (.ref b2)) (fun h => by rw [Bd.returns] at h; cases h)
  refine ⟨_, _, pre0 _ ?_, hrun, hended, _, _, rfl, ?_, ⟨_, rfl⟩, hW, hsame.mono (by decide) (by decide)⟩
  · show Steps _ _ _ (s₁.setTop (mkF m 0 #[vR a1] [])) _
    refine XS.aloadN X0.here hx rfl (hb hby d9_0) rfl rfl ?_
    show Steps _ _ _ (s₁.setTop (mkF m 1 #[vR a1] [iR a1])) _
    refine st1 _ ?_
    show Steps _ _ _ (T1.setTop (mkF m 4 #[vR a1] [iR b4])) _
    refine st2 _ ?_
    show Steps _ _ _ (T2.setTop (mkF m 7 #[vR a1] [iR b2])) _
    refine st3 _ ?_
    show Steps _ _ _ (T3.setTop (mkF m 10 #[vR a1] [iR b2])) _
    jvm_step X3.here [X3.here.top, hx, (hb hby d9_10), X3.method', Bd.returns, Value.isRef, FieldType.isReference]
    first | (intro acts; rw [hr _ acts rfl rfl rfl]) | rw [hr _ _ rfl rfl rfl]
    exact Steps.refl _
  · show Q9 Z a1 b4 y0 kk h0 n0 _ T3.heap _
    rw [e3]
    exact ⟨_, rfl, N0, V2⟩
theorem own_b31 (x : Int32) : ¬ (x &&& (31 : Int32)) < 0 ∧ (x &&& (31 : Int32)).toNatClampNeg ≤ 31 := by
  have h := c_and x 31 (by decide)
  have e : (31 : Int32).toInt = 31 := rfl
  rw [e] at h
  refine ⟨?_, ?_⟩
  · rw [Int32.lt_iff_toInt_lt]; show ¬ _ < (0 : Int); omega
  · simp only [Int32.toNatClampNeg]; omega
theorem own_i2b (z : Int32) : nar .byte z.toInt8.toInt32 = z.toInt8.toInt32 := by
  show z.toInt8.toInt32.toInt8.toInt32 = _
  rw [Int8.toInt8_toInt32]

theorem pn_3 : plainName "com/example/threefold/threefold/store/DeviceHasMasterSecretPinLaw" = true := by first | (simp [plainName, overriddenIn]; done) | decide +kernel
theorem ef_0 (m : MethodId) (x0 : Int32) (x1 : Int32) (x2 : Int32) : entryFrame m #[(.int x0), (.int x1), (.int x2)] maxLocals = mkF m 0 #[.val (.int x0), .val (.int x1), .val (.int x2), .unset, .unset, .unset, .unset, .unset, .unset] [] := by first | (simp [entryFrame, mkF, argsToLocals, Value.category, maxLocals]; done) | rfl
def Q0 (Z : State) (p1 : Int32) (p2 : Int32) (p3 : Int32) (h0 : Heap) (n0 : Nat) (v : Option Value) (h : Heap) (L : List Loc) : Prop := v = some (.int (1 : Int32)) ∧ Fr n0 L
set_option maxRecDepth 65536 in
set_option maxHeartbeats 40000000 in
theorem rm0 (l : Launch) (Z : State) (a0 : Array Value) (hw : ∀ d ∈ tables_1, d.before a0 Z = true) (ws : List Jvm.Cond) (p1 : Int32) (p2 : Int32) (p3 : Int32) (h0 : Heap) (n0 : Nat) (Z0 : n0 ≤ h0.size) :
    MetFree l x (head1 (Jvm.Cond.code x code maxLocals ret :: ws) room_1) (fun a U => a = #[(.int p1), (.int p2), (.int p3)] ∧ Z.Warmed39 U.vm ∧ U.heap = h0) (fun _ _ _ _ _ => True) (fun _ U o U' => ∃ v L, o = .returned v ∧ Q0 Z p1 p2 p3 h0 n0 v U'.heap L ∧ FrameEnd U o U' L room_1.cells room_1.slots) := by
  refine MetFree.of_bodySF (plainFor_of_name pn_3) hisR ?_
  intro p e s m args below meth c s₁ Bd hml0 hP hK
  obtain ⟨rfl, hZ, hh⟩ := hP
  have hx := Bd.exec
  have hby := Bd.bytes
  have hml : c.maxLocals = 9 := hml0
  have hown : s.vm.findClass "com/example/threefold/threefold/store/DeviceHasMasterSecretPinLaw" = some m.cls := findClass_of_methodNamed Bd.named
  have hnm := (name_of_methodNamed Bd.named Bd.method).1
  have X0 : Stand p l e room_1 s m #[(.int p1), (.int p2), (.int p3)] below meth c s₁ [] 0 0 := Stand.of_body Bd
  have e0 : s₁.heap = h0 := by rw [← hh, Bd.state]; rfl
  have N0 := Fr.nil n0
  have K0 := Keep.refl h0 []
  have pre0 : ∀ t, Steps p.tables e below (s₁.setTop (mkF m 0 #[.val (.int p1), .val (.int p2), .val (.int p3), .unset, .unset, .unset, .unset, .unset, .unset] [])) t → Steps p.tables e below (s₁.setTop (entryFrame m #[(.int p1), (.int p2), (.int p3)] maxLocals)) t := fun t k => castTop (ef_0 m p1 p2 p3) k
  obtain ⟨v1, hv1⟩ : ∃ z : Int32, z = (if (p1 &&& (1 : Int32)) = (0 : Int32) then (0 : Int32) else (1 : Int32)) := ⟨_, rfl⟩
  obtain ⟨T2, X2, e2, st2⟩ : own_Mid X0 h0 (mkF m 3 #[vI p1, vI p2, vI p3, .unset, .unset, .unset, .unset, .unset, .unset] [iI (p1 &&& (1 : Int32))]) (mkF m 11 #[vI p1, vI p2, vI p3, .unset, .unset, .unset, .unset, .unset, .unset] [iI v1]) := by
    by_cases hc3 : (p1 &&& (1 : Int32)) = (0 : Int32)
    · refine ⟨s₁, X0, e0, fun t kt => ?_⟩
      subst hv1
      simp only [if_pos hc3] at kt
      show Steps _ _ _ (s₁.setTop (mkF m 3 #[vI p1, vI p2, vI p3, .unset, .unset, .unset, .unset, .unset, .unset] [iI (p1 &&& (1 : Int32))])) _
      refine XS.ifYes X0.here hx rfl (pc0 := 3) (pc' := 10) rfl (hb hby at_3) rfl ((if0 _ _).trans (teq hc3).1) (by decide) (by decide) ?_
      show Steps _ _ _ (s₁.setTop (mkF m 10 #[vI p1, vI p2, vI p3, .unset, .unset, .unset, .unset, .unset, .unset] [])) _
      refine XS.iconst X0.here hx rfl (hb hby at_10) ?_
      exact kt
    · refine ⟨s₁, X0, e0, fun t kt => ?_⟩
      subst hv1
      simp only [if_neg hc3] at kt
      show Steps _ _ _ (s₁.setTop (mkF m 3 #[vI p1, vI p2, vI p3, .unset, .unset, .unset, .unset, .unset, .unset] [iI (p1 &&& (1 : Int32))])) _
      refine XS.ifNo X0.here hx rfl (hb hby at_3) rfl ((if0 _ _).trans (feq hc3).1) ?_
      show Steps _ _ _ (s₁.setTop (mkF m 6 #[vI p1, vI p2, vI p3, .unset, .unset, .unset, .unset, .unset, .unset] [])) _
      refine XS.iconst X0.here hx rfl (hb hby at_6) ?_
      show Steps _ _ _ (s₁.setTop (mkF m 7 #[vI p1, vI p2, vI p3, .unset, .unset, .unset, .unset, .unset, .unset] [iI 1])) _
      refine XS.goto X0.here hx rfl (pc0 := 7) (pc' := 11) rfl (hb hby at_7) (by decide) (by decide) ?_
      exact kt
  have qb : v1 = 1 ∨ v1 = 0 := by rw [hv1]; split <;> simp
  have pre4 : ∀ t, Steps p.tables e below (T2.setTop (mkF m 12 #[vI p1, vI p2, vI p3, vI v1, .unset, .unset, .unset, .unset, .unset] [])) t → Steps p.tables e below (s₁.setTop (entryFrame m #[(.int p1), (.int p2), (.int p3)] maxLocals)) t := by
    intro t kt
    refine pre0 t ?_
    show Steps _ _ _ (s₁.setTop (mkF m 0 #[vI p1, vI p2, vI p3, .unset, .unset, .unset, .unset, .unset, .unset] [])) _
    refine XS.iloadN X0.here hx rfl (hb hby at_0) rfl ?_
    show Steps _ _ _ (s₁.setTop (mkF m 1 #[vI p1, vI p2, vI p3, .unset, .unset, .unset, .unset, .unset, .unset] [iI p1])) _
    refine XS.iconst X0.here hx rfl (hb hby at_1) ?_
    show Steps _ _ _ (s₁.setTop (mkF m 2 #[vI p1, vI p2, vI p3, .unset, .unset, .unset, .unset, .unset, .unset] [iI 1, iI p1])) _
    refine XS.iand X0.here hx rfl (hb hby at_2) rfl ?_
    show Steps _ _ _ (s₁.setTop (mkF m 3 #[vI p1, vI p2, vI p3, .unset, .unset, .unset, .unset, .unset, .unset] [iI (p1 &&& (1 : Int32))])) _
    refine st2 _ ?_
    show Steps _ _ _ (T2.setTop (mkF m 11 #[vI p1, vI p2, vI p3, .unset, .unset, .unset, .unset, .unset, .unset] [iI v1])) _
    refine XS.istoreN X2.here hx rfl (hb hby at_11) rfl (l' := #[vI p1, vI p2, vI p3, vI v1, .unset, .unset, .unset, .unset, .unset]) rfl ?_
    exact kt
  rcases qb with rfl | rfl
  · obtain ⟨nv, hnv⟩ : ∃ z : Int32, z = (p2 &&& (31 : Int32)) := ⟨_, rfl⟩
    have qn : ¬ nv < 0 ∧ nv.toNatClampNeg ≤ 31 := by rw [hnv]; exact own_b31 p2
    obtain ⟨T6, h6, k6, X6, e6, E6, A6, B6, st6⟩ := newPE X2 hx hZ (hw _ (List.mem_of_getElem? (i := 3) rfl)) e2 (g := (mkF m 27 #[vI p1, vI p2, vI p3, vI 1, vI nv, .val .null, .unset, .unset, .unset] [iI nv])) rfl (hb hby at_27) rfl qn.1 (cap := 31) qn.2 (by decide) (by decide) (by decide) rfl
    obtain ⟨b6, g6⟩ : ∃ z, z = h0.size := ⟨_, rfl⟩
    rw [← g6] at A6 B6 st6
    have sz_b6 : h0.size ≤ b6 := Nat.le_trans K0.1 (Nat.le_of_eq g6.symm)
    have g_b6 : n0 ≤ b6 := Nat.le_trans Z0 sz_b6
    have K6 : Keep h0 h6 [] := K0.ext E6
    have V6 : Arv Z h6 b6 k6 .byte nv [(.int (0 : Int32))] (.int (0 : Int32)) := (Arv.new A6 qn.1).pad (pad_rep [] (.int (0 : Int32)) 1)
    have pre8 : ∀ t, Steps p.tables e below (T6.setTop (mkF m 33 #[vI p1, vI p2, vI p3, vI 1, vI nv, vR b6, .unset, .unset, .unset] [iI nv])) t → Steps p.tables e below (s₁.setTop (entryFrame m #[(.int p1), (.int p2), (.int p3)] maxLocals)) t := by
      intro t kt
      refine pre4 t ?_
      show Steps _ _ _ (T2.setTop (mkF m 12 #[vI p1, vI p2, vI p3, vI 1, .unset, .unset, .unset, .unset, .unset] [])) _
      refine XS.iloadN X2.here hx rfl (hb hby at_12) rfl ?_
      show Steps _ _ _ (T2.setTop (mkF m 13 #[vI p1, vI p2, vI p3, vI 1, .unset, .unset, .unset, .unset, .unset] [iI p2])) _
      refine XS.bipush X2.here hx rfl (hb hby at_13) ?_
      show Steps _ _ _ (T2.setTop (mkF m 15 #[vI p1, vI p2, vI p3, vI 1, .unset, .unset, .unset, .unset, .unset] [iI 31, iI p2])) _
      refine XS.iand X2.here hx rfl (hb hby at_15) rfl ?_
      show Steps _ _ _ (T2.setTop (mkF m 16 #[vI p1, vI p2, vI p3, vI 1, .unset, .unset, .unset, .unset, .unset] [iI (p2 &&& (31 : Int32))])) _
      refine XS.istore X2.here hx rfl (hb hby at_16) rfl (l' := #[vI p1, vI p2, vI p3, vI 1, vI (p2 &&& (31 : Int32)), .unset, .unset, .unset, .unset]) rfl ?_
      rw [← hnv]
      show Steps _ _ _ (T2.setTop (mkF m 18 #[vI p1, vI p2, vI p3, vI 1, vI nv, .unset, .unset, .unset, .unset] [])) _
      refine XS.aconstNull X2.here hx rfl (hb hby at_18) ?_
      show Steps _ _ _ (T2.setTop (mkF m 19 #[vI p1, vI p2, vI p3, vI 1, vI nv, .unset, .unset, .unset, .unset] [.null])) _
      refine XS.astore X2.here hx rfl (hb hby at_19) rfl rfl (l' := #[vI p1, vI p2, vI p3, vI 1, vI nv, .val .null, .unset, .unset, .unset]) rfl ?_
      show Steps _ _ _ (T2.setTop (mkF m 21 #[vI p1, vI p2, vI p3, vI 1, vI nv, .val .null, .unset, .unset, .unset] [])) _
      refine XS.iloadN X2.here hx rfl (hb hby at_21) rfl ?_
      show Steps _ _ _ (T2.setTop (mkF m 22 #[vI p1, vI p2, vI p3, vI 1, vI nv, .val .null, .unset, .unset, .unset] [iI 1])) _
      refine XS.ifNo X2.here hx rfl (hb hby at_22) rfl ((if0 _ _).trans (feq (by decide : ¬ ((1 : Int32) = (0 : Int32)))).1) ?_
      show Steps _ _ _ (T2.setTop (mkF m 25 #[vI p1, vI p2, vI p3, vI 1, vI nv, .val .null, .unset, .unset, .unset] [])) _
      refine XS.iload X2.here hx rfl (hb hby at_25) rfl ?_
      show Steps _ _ _ (T2.setTop (mkF m 27 #[vI p1, vI p2, vI p3, vI 1, vI nv, .val .null, .unset, .unset, .unset] [iI nv])) _
      refine st6 _ ?_
      show Steps _ _ _ (T6.setTop (mkF m 29 #[vI p1, vI p2, vI p3, vI 1, vI nv, .val .null, .unset, .unset, .unset] [iR b6])) _
      refine XS.astore X6.here hx rfl (hb hby at_29) rfl rfl (l' := #[vI p1, vI p2, vI p3, vI 1, vI nv, vR b6, .unset, .unset, .unset]) rfl ?_
      show Steps _ _ _ (T6.setTop (mkF m 31 #[vI p1, vI p2, vI p3, vI 1, vI nv, vR b6, .unset, .unset, .unset] [])) _
      refine XS.iload X6.here hx rfl (hb hby at_31) rfl ?_
      exact kt
    by_cases hc7 : (0 : Int32) < nv
    · obtain ⟨cl9, Ar9, q9, S9, M9, H9, G9⟩ := id V6
      have hin10 : ¬ ((0 : Int32) < 0 ∨ cl9.slots.size ≤ ((0 : Int32)).toNatClampNeg) := inb_of S9 ⟨by decide, hc7⟩
      obtain ⟨T11, h11, X11, e11, W11, st11⟩ := stB X6 hx hZ e6 Ar9 (j := (0 : Int32)) hin10 (g := (mkF m 41 #[vI p1, vI p2, vI p3, vI 1, vI nv, vR b6, .unset, .unset, .unset] [iI p3.toInt8.toInt32, iI 0, iR b6])) rfl rfl (hb hby at_41)
      have V11 : Arv Z h11 b6 k6 .byte nv [(.int (nar .byte p3.toInt8.toInt32))] (.int (0 : Int32)) := Arv.set Ar9 q9 S9 M9 H9 G9 (fits_nar_byte _) W11 0 rfl (Nat.le_of_ble_eq_true rfl)
      have K11 : Keep h0 h11 [] := K6.wr W11 (Or.inr sz_b6)
      have N11 := Fr.snoc X11 N0 g_b6
      obtain ⟨T12, h12, X12, e12, E12, A12, D12, -, st12⟩ := newO X11 hx hZ hown (hw _ (List.mem_of_getElem? (i := 0) rfl)) (hw _ (List.mem_of_getElem? (i := 1) rfl)) (hw _ (List.mem_of_getElem? (i := 2) rfl)) e11 (g := (mkF m 42 #[vI p1, vI p2, vI p3, vI 1, vI nv, vR b6, .unset, .unset, .unset] [])) rfl (hb hby at_42) (by decide) (by decide)
      obtain ⟨b12, g12⟩ : ∃ z, z = h11.size := ⟨_, rfl⟩
      rw [← g12] at A12 D12 st12
      have fk13 := (B6.wr W11)
      have ne_b6_b12 : b6 ≠ b12 := Nat.ne_of_lt (Nat.lt_of_lt_of_le fk13.lt (Nat.le_of_eq g12.symm))
      have sz_b12 : h0.size ≤ b12 := Nat.le_trans K11.1 (Nat.le_of_eq g12.symm)
      have g_b12 : n0 ≤ b12 := Nat.le_trans Z0 sz_b12
      have K12 : Keep h0 h12 [] := K11.ext E12
      have F_serverPrivateKey_b12 : Fld Z h12 b12 "com/example/threefold/threefold/store/Device" "serverPrivateKey" "[B" .null := D12 (Or.inr (hw _ (List.mem_of_getElem? (i := 16) rfl))) (ty := (.array .byte)) (by decide)
      have F_devicePublicKey_b12 : Fld Z h12 b12 "com/example/threefold/threefold/store/Device" "devicePublicKey" "[B" .null := D12 (Or.inr (hw _ (List.mem_of_getElem? (i := 18) rfl))) (ty := (.array .byte)) (by decide)
      have F_masterSecret_b12 : Fld Z h12 b12 "com/example/threefold/threefold/store/Device" "masterSecret" "[B" .null := D12 (Or.inr (hw _ (List.mem_of_getElem? (i := 20) rfl))) (ty := (.array .byte)) (by decide)
      have F_activationName_b12 : Fld Z h12 b12 "com/example/threefold/threefold/store/Device" "activationName" "Ljava/lang/String;" .null := D12 (Or.inr (hw _ (List.mem_of_getElem? (i := 22) rfl))) (ty := (.object "java/lang/String")) (by decide)
      have F_extras_b12 : Fld Z h12 b12 "com/example/threefold/threefold/store/Device" "extras" "Ljava/lang/String;" .null := D12 (Or.inr (hw _ (List.mem_of_getElem? (i := 24) rfl))) (ty := (.object "java/lang/String")) (by decide)
      obtain ⟨T14, h14, k14, X14, e14, E14, A14, B14, st14⟩ := newPE X12 hx hZ (hw _ (List.mem_of_getElem? (i := 3) rfl)) e12 (g := (mkF m 48 #[vI p1, vI p2, vI p3, vI 1, vI nv, vR b6, .unset, .unset, .unset] [iI 32, iR b12, iR b12])) rfl (hb hby at_48) rfl (by decide) (cap := 32) (by decide) (by decide) (by decide) (by decide) rfl
      obtain ⟨b14, g14⟩ : ∃ z, z = h12.size := ⟨_, rfl⟩
      rw [← g14] at A14 B14 st14
      have fk15 := (fk13.ext E12)
      have ne_b6_b14 : b6 ≠ b14 := Nat.ne_of_lt (Nat.lt_of_lt_of_le fk15.lt (Nat.le_of_eq g14.symm))
      have ne_b12_b14 : b12 ≠ b14 := Nat.ne_of_lt (Nat.lt_of_lt_of_le A12.lt (Nat.le_of_eq g14.symm))
      have sz_b14 : h0.size ≤ b14 := Nat.le_trans K12.1 (Nat.le_of_eq g14.symm)
      have g_b14 : n0 ≤ b14 := Nat.le_trans Z0 sz_b14
      have K14 : Keep h0 h14 [] := K12.ext E14
      have V14 : Arv Z h14 b14 k14 .byte (32 : Int32) [(.int (0 : Int32)), (.int (0 : Int32)), (.int (0 : Int32)), (.int (0 : Int32)), (.int (0 : Int32)), (.int (0 : Int32)), (.int (0 : Int32)), (.int (0 : Int32)), (.int (0 : Int32)), (.int (0 : Int32)), (.int (0 : Int32)), (.int (0 : Int32)), (.int (0 : Int32)), (.int (0 : Int32)), (.int (0 : Int32)), (.int (0 : Int32)), (.int (0 : Int32)), (.int (0 : Int32)), (.int (0 : Int32)), (.int (0 : Int32)), (.int (0 : Int32)), (.int (0 : Int32)), (.int (0 : Int32)), (.int (0 : Int32)), (.int (0 : Int32)), (.int (0 : Int32)), (.int (0 : Int32)), (.int (0 : Int32)), (.int (0 : Int32)), (.int (0 : Int32)), (.int (0 : Int32)), (.int (0 : Int32))] (.int (0 : Int32)) := (Arv.new A14 (by decide)).pad (pad_rep [] (.int (0 : Int32)) 32)
      obtain ⟨T16, h16, k16, X16, e16, E16, A16, B16, st16⟩ := newPE X14 hx hZ (hw _ (List.mem_of_getElem? (i := 3) rfl)) e14 (g := (mkF m 52 #[vI p1, vI p2, vI p3, vI 1, vI nv, vR b6, .unset, .unset, .unset] [iI 65, iR b14, iR b12, iR b12])) rfl (hb hby at_52) rfl (by decide) (cap := 65) (by decide) (by decide) (by decide) (by decide) rfl
      obtain ⟨b16, g16⟩ : ∃ z, z = h14.size := ⟨_, rfl⟩
      rw [← g16] at A16 B16 st16
      have fk17 := (fk15.ext E14)
      have ne_b6_b16 : b6 ≠ b16 := Nat.ne_of_lt (Nat.lt_of_lt_of_le fk17.lt (Nat.le_of_eq g16.symm))
      have fk18 := (A12.ext E14)
      have ne_b12_b16 : b12 ≠ b16 := Nat.ne_of_lt (Nat.lt_of_lt_of_le fk18.lt (Nat.le_of_eq g16.symm))
      have ne_b14_b16 : b14 ≠ b16 := Nat.ne_of_lt (Nat.lt_of_lt_of_le B14.lt (Nat.le_of_eq g16.symm))
      have sz_b16 : h0.size ≤ b16 := Nat.le_trans K14.1 (Nat.le_of_eq g16.symm)
      have g_b16 : n0 ≤ b16 := Nat.le_trans Z0 sz_b16
      have K16 : Keep h0 h16 [] := K14.ext E16
      have V16 : Arv Z h16 b16 k16 .byte (65 : Int32) [] (.int (0 : Int32)) := (Arv.new A16 (by decide)).pad (pad_rep [] (.int (0 : Int32)) 0)
      have fk20 := (fk18.ext E16)
      have fk21 := ((F_serverPrivateKey_b12.ext E14).ext E16)
      have fk22 := ((F_devicePublicKey_b12.ext E14).ext E16)
      have fk23 := ((F_masterSecret_b12.ext E14).ext E16)
      have fk24 := ((F_activationName_b12.ext E14).ext E16)
      have fk25 := ((F_extras_b12.ext E14).ext E16)
      obtain ⟨_, _, ⟨T19, L19, k19, n19⟩, -, X19, ⟨Lc19, hQ19, l19, y19, z19⟩, st19⟩ := X16.specialBack hx (y := (⟨"com/example/threefold/threefold/store/Device", "<init>", "([B[B[BLjava/lang/String;Ljava/lang/String;)V"⟩ : MethodName)) rfl hown (mvT hZ (hw _ (List.mem_of_getElem? (i := 4) rfl))) (mvT hZ (hw _ (List.mem_of_getElem? (i := 5) rfl))) (mvT hZ (hw _ (List.mem_of_getElem? (i := 6) rfl))) (by decide) (backOf (W := 1) (rm1_s l Z a0 hw [] b12 b14 b16 b6 h16 n0 (Nat.le_trans Z0 K16.1) fk20 g_b12 fk21 fk22 fk23 fk24 fk25) hZ (hw _ (List.mem_of_getElem? (i := 6) rfl)) (hw _ (List.mem_of_getElem? (i := 2) rfl)) (by decide) (by decide)) (g := (mkF m 58 #[vI p1, vI p2, vI p3, vI 1, vI nv, vR b6, .unset, .unset, .unset] [.null, .null, iR b6, iR b16, iR b14, iR b12, iR b12])) rfl (by rw [hml]; rfl) (Steps.refl _) (a := b12) (argsL := [(.ref b14), (.ref b16), (.ref b6), .null, .null]) (rest := [(.ref b12)]) (lenOf pd_4 rfl) rfl (by show 2 * 0 + _ ≤ _; exact Nat.le_of_eq rfl) (hb hby at_58) (fun _ _ => ⟨rfl, e16, (by decide : 4 + 0 ≤ _), (by decide : 133 + 0 ≤ _)⟩)
      dsimp only [Pt.U, Pt.locs, Pt.cells, Pt.slots] at X19 l19 y19 z19 st19 hQ19
      subst l19 y19 z19
      obtain ⟨rfl, N19q, K19q, E19q, F19q⟩ := hQ19
      have N19 := Fr.app N11 N19q
      have K19 : Keep h0 T19.heap [] := Keep.trans K16 K19q (allS (Or.inr sz_b12) all0)
      obtain ⟨cq26, kq26, q26a, q26b, q26c⟩ := isOf hZ rfl E19q
      obtain ⟨_, _, ⟨T26, L26, k26, n26⟩, -, X26, ⟨Lc26, hQ26, l26, y26, z26⟩, st26⟩ := X19.virtualBack hx (y := (⟨"com/example/threefold/threefold/store/Device", "hasMasterSecret", "()Z"⟩ : MethodName)) (z := (⟨"com/example/threefold/threefold/store/Device", "hasMasterSecret", "()Z"⟩ : MethodName)) hown (mvT hZ (hw _ (List.mem_of_getElem? (i := 25) rfl))) (mvT hZ (hw _ (List.mem_of_getElem? (i := 26) rfl))) (notFace_of_selects (args := #[]) (mvT hZ (hw _ (List.mem_of_getElem? (i := 28) rfl)))) (mvT hZ (hw _ (List.mem_of_getElem? (i := 28) rfl))) (mvT hZ (hw _ (List.mem_of_getElem? (i := 27) rfl))) (by decide) (backOf (W := 0) (rm4_s l Z a0 hw [] b12 b6 T19.heap F19q) hZ (hw _ (List.mem_of_getElem? (i := 29) rfl)) (hw _ (List.mem_of_getElem? (i := 2) rfl)) (by decide) (by decide)) q26a q26c (g := (mkF m 65 #[vI p1, vI p2, vI p3, vI 1, vI nv, vR b6, vR b12, .unset, .unset] [iR b12])) rfl (by rw [hml]; rfl) (Steps.refl _) (argsL := []) (rest := []) (lenOf pd_1 rfl) rfl (by show 2 * 0 + _ ≤ _; exact Nat.le_of_eq rfl) (hb hby at_65) (fun _ _ => ⟨rfl, rfl, (by decide : 4 + 0 ≤ _), (by decide : 133 + 0 ≤ _)⟩)
      dsimp only [Pt.U, Pt.locs, Pt.cells, Pt.slots] at X26 l26 y26 z26 st26 hQ26
      subst l26 y26 z26
      obtain ⟨rfl, rfl, e26⟩ := hQ26
      try rw [List.append_nil] at X26
      obtain ⟨cq27, kq27, q27a, q27b, q27c⟩ := isOf hZ e26 E19q
      obtain ⟨_, _, ⟨T27, L27, k27, n27⟩, -, X27, ⟨Lc27, hQ27, l27, y27, z27⟩, st27⟩ := X26.virtualBack hx (y := (⟨"com/example/threefold/threefold/store/Device", "withMasterSecret", "()Lcom/example/threefold/threefold/store/Device;"⟩ : MethodName)) (z := (⟨"com/example/threefold/threefold/store/Device", "withMasterSecret", "()Lcom/example/threefold/threefold/store/Device;"⟩ : MethodName)) hown (mvT hZ (hw _ (List.mem_of_getElem? (i := 30) rfl))) (mvT hZ (hw _ (List.mem_of_getElem? (i := 31) rfl))) (notFace_of_selects (args := #[]) (mvT hZ (hw _ (List.mem_of_getElem? (i := 33) rfl)))) (mvT hZ (hw _ (List.mem_of_getElem? (i := 33) rfl))) (mvT hZ (hw _ (List.mem_of_getElem? (i := 32) rfl))) (by decide) (backOf (W := 0) (rm5 l Z a0 hw [] b12 b6 T19.heap E19q F19q) hZ (hw _ (List.mem_of_getElem? (i := 34) rfl)) (hw _ (List.mem_of_getElem? (i := 2) rfl)) (by decide) (by decide)) q27a q27c (g := (mkF m 87 #[vI p1, vI p2, vI p3, vI 1, vI nv, vR b6, vR b12, vI 1, .unset] [iR b12])) rfl (by rw [hml]; rfl) (Steps.refl _) (argsL := []) (rest := []) (lenOf pd_5 rfl) rfl (by show 2 * 0 + _ ≤ _; exact Nat.le_of_eq rfl) (hb hby at_87) (fun _ _ => ⟨rfl, e26, (by decide : 4 + 0 ≤ _), (by decide : 133 + 0 ≤ _)⟩)
      dsimp only [Pt.U, Pt.locs, Pt.cells, Pt.slots] at X27 l27 y27 z27 st27 hQ27
      subst l27 y27 z27
      obtain ⟨rfl, rfl, e27⟩ := hQ27
      try rw [List.append_nil] at X27
      have pre29 : ∀ t, Steps p.tables e below (T27.setTop (mkF m 101 #[vI p1, vI p2, vI p3, vI 1, vI nv, vR b6, vR b12, vI 1, .unset] [iI 16, iI nv])) t → Steps p.tables e below (s₁.setTop (entryFrame m #[(.int p1), (.int p2), (.int p3)] maxLocals)) t := by
        intro t kt
        refine pre8 t ?_
        show Steps _ _ _ (T6.setTop (mkF m 33 #[vI p1, vI p2, vI p3, vI 1, vI nv, vR b6, .unset, .unset, .unset] [iI nv])) _
        refine XS.ifNo X6.here hx rfl (hb hby at_33) rfl ((if0 _ _).trans (tlt hc7).2.2.2) ?_
        show Steps _ _ _ (T6.setTop (mkF m 36 #[vI p1, vI p2, vI p3, vI 1, vI nv, vR b6, .unset, .unset, .unset] [])) _
        refine XS.aload X6.here hx rfl (hb hby at_36) rfl rfl ?_
        show Steps _ _ _ (T6.setTop (mkF m 38 #[vI p1, vI p2, vI p3, vI 1, vI nv, vR b6, .unset, .unset, .unset] [iR b6])) _
        refine XS.iconst X6.here hx rfl (hb hby at_38) ?_
        show Steps _ _ _ (T6.setTop (mkF m 39 #[vI p1, vI p2, vI p3, vI 1, vI nv, vR b6, .unset, .unset, .unset] [iI 0, iR b6])) _
        refine XS.iloadN X6.here hx rfl (hb hby at_39) rfl ?_
        show Steps _ _ _ (T6.setTop (mkF m 40 #[vI p1, vI p2, vI p3, vI 1, vI nv, vR b6, .unset, .unset, .unset] [iI p3, iI 0, iR b6])) _
        refine XS.i2b X6.here hx rfl (hb hby at_40) rfl ?_
        show Steps _ _ _ (T6.setTop (mkF m 41 #[vI p1, vI p2, vI p3, vI 1, vI nv, vR b6, .unset, .unset, .unset] [iI p3.toInt8.toInt32, iI 0, iR b6])) _
        refine st11 _ ?_
        show Steps _ _ _ (T11.setTop (mkF m 42 #[vI p1, vI p2, vI p3, vI 1, vI nv, vR b6, .unset, .unset, .unset] [])) _
        refine st12 _ ?_
        show Steps _ _ _ (T12.setTop (mkF m 45 #[vI p1, vI p2, vI p3, vI 1, vI nv, vR b6, .unset, .unset, .unset] [iR b12])) _
        refine XS.dup X12.here hx rfl (hb hby at_45) rfl rfl ?_
        show Steps _ _ _ (T12.setTop (mkF m 46 #[vI p1, vI p2, vI p3, vI 1, vI nv, vR b6, .unset, .unset, .unset] [iR b12, iR b12])) _
        refine XS.bipush X12.here hx rfl (hb hby at_46) ?_
        show Steps _ _ _ (T12.setTop (mkF m 48 #[vI p1, vI p2, vI p3, vI 1, vI nv, vR b6, .unset, .unset, .unset] [iI 32, iR b12, iR b12])) _
        refine st14 _ ?_
        show Steps _ _ _ (T14.setTop (mkF m 50 #[vI p1, vI p2, vI p3, vI 1, vI nv, vR b6, .unset, .unset, .unset] [iR b14, iR b12, iR b12])) _
        refine XS.bipush X14.here hx rfl (hb hby at_50) ?_
        show Steps _ _ _ (T14.setTop (mkF m 52 #[vI p1, vI p2, vI p3, vI 1, vI nv, vR b6, .unset, .unset, .unset] [iI 65, iR b14, iR b12, iR b12])) _
        refine st16 _ ?_
        show Steps _ _ _ (T16.setTop (mkF m 54 #[vI p1, vI p2, vI p3, vI 1, vI nv, vR b6, .unset, .unset, .unset] [iR b16, iR b14, iR b12, iR b12])) _
        refine XS.aload X16.here hx rfl (hb hby at_54) rfl rfl ?_
        show Steps _ _ _ (T16.setTop (mkF m 56 #[vI p1, vI p2, vI p3, vI 1, vI nv, vR b6, .unset, .unset, .unset] [iR b6, iR b16, iR b14, iR b12, iR b12])) _
        refine XS.aconstNull X16.here hx rfl (hb hby at_56) ?_
        show Steps _ _ _ (T16.setTop (mkF m 57 #[vI p1, vI p2, vI p3, vI 1, vI nv, vR b6, .unset, .unset, .unset] [.null, iR b6, iR b16, iR b14, iR b12, iR b12])) _
        refine XS.aconstNull X16.here hx rfl (hb hby at_57) ?_
        show Steps _ _ _ (T16.setTop (mkF m 58 #[vI p1, vI p2, vI p3, vI 1, vI nv, vR b6, .unset, .unset, .unset] [.null, .null, iR b6, iR b16, iR b14, iR b12, iR b12])) _
        refine st19.trans ?_
        show Steps _ _ _ (T19.setTop (mkF m 61 #[vI p1, vI p2, vI p3, vI 1, vI nv, vR b6, .unset, .unset, .unset] [iR b12])) _
        refine XS.astore X19.here hx rfl (hb hby at_61) rfl rfl (l' := #[vI p1, vI p2, vI p3, vI 1, vI nv, vR b6, vR b12, .unset, .unset]) rfl ?_
        show Steps _ _ _ (T19.setTop (mkF m 63 #[vI p1, vI p2, vI p3, vI 1, vI nv, vR b6, vR b12, .unset, .unset] [])) _
        refine XS.aload X19.here hx rfl (hb hby at_63) rfl rfl ?_
        show Steps _ _ _ (T19.setTop (mkF m 65 #[vI p1, vI p2, vI p3, vI 1, vI nv, vR b6, vR b12, .unset, .unset] [iR b12])) _
        refine st26.trans ?_
        show Steps _ _ _ (T26.setTop (mkF m 68 #[vI p1, vI p2, vI p3, vI 1, vI nv, vR b6, vR b12, .unset, .unset] [iI 1])) _
        refine XS.istore X26.here hx rfl (hb hby at_68) rfl (l' := #[vI p1, vI p2, vI p3, vI 1, vI nv, vR b6, vR b12, vI 1, .unset]) rfl ?_
        show Steps _ _ _ (T26.setTop (mkF m 70 #[vI p1, vI p2, vI p3, vI 1, vI nv, vR b6, vR b12, vI 1, .unset] [])) _
        refine XS.iload X26.here hx rfl (hb hby at_70) rfl ?_
        show Steps _ _ _ (T26.setTop (mkF m 72 #[vI p1, vI p2, vI p3, vI 1, vI nv, vR b6, vR b12, vI 1, .unset] [iI 1])) _
        refine XS.iloadN X26.here hx rfl (hb hby at_72) rfl ?_
        show Steps _ _ _ (T26.setTop (mkF m 73 #[vI p1, vI p2, vI p3, vI 1, vI nv, vR b6, vR b12, vI 1, .unset] [iI 1, iI 1])) _
        refine XS.icmpYes X26.here hx rfl (pc0 := 73) (pc' := 78) rfl (hb hby at_73) rfl (teq (by decide : (1 : Int32) = (1 : Int32))).1 (by decide) (by decide) ?_
        show Steps _ _ _ (T26.setTop (mkF m 78 #[vI p1, vI p2, vI p3, vI 1, vI nv, vR b6, vR b12, vI 1, .unset] [])) _
        refine XS.iload X26.here hx rfl (hb hby at_78) rfl ?_
        show Steps _ _ _ (T26.setTop (mkF m 80 #[vI p1, vI p2, vI p3, vI 1, vI nv, vR b6, vR b12, vI 1, .unset] [iI 1])) _
        refine XS.ifYes X26.here hx rfl (pc0 := 80) (pc' := 85) rfl (hb hby at_80) rfl ((if0 _ _).trans (feq (by decide : ¬ ((1 : Int32) = (0 : Int32)))).2) (by decide) (by decide) ?_
        show Steps _ _ _ (T26.setTop (mkF m 85 #[vI p1, vI p2, vI p3, vI 1, vI nv, vR b6, vR b12, vI 1, .unset] [])) _
        refine XS.aload X26.here hx rfl (hb hby at_85) rfl rfl ?_
        show Steps _ _ _ (T26.setTop (mkF m 87 #[vI p1, vI p2, vI p3, vI 1, vI nv, vR b6, vR b12, vI 1, .unset] [iR b12])) _
        refine st27.trans ?_
        show Steps _ _ _ (T27.setTop (mkF m 90 #[vI p1, vI p2, vI p3, vI 1, vI nv, vR b6, vR b12, vI 1, .unset] [iR b12])) _
        refine XS.aload X27.here hx rfl (hb hby at_90) rfl rfl ?_
        show Steps _ _ _ (T27.setTop (mkF m 92 #[vI p1, vI p2, vI p3, vI 1, vI nv, vR b6, vR b12, vI 1, .unset] [iR b12, iR b12])) _
        refine Jvm.RoadKit.acmp (g := (mkF m 92 #[vI p1, vI p2, vI p3, vI 1, vI nv, vR b6, vR b12, vI 1, .unset] [iR b12, iR b12])) X27 hx rfl rfl rfl (pc0 := 92) (pc' := 97) (same := true) rfl (hb hby at_92) rfl (decide_eq_true rfl) (by decide) (by decide) ?_
        show Steps _ _ _ (T27.setTop (mkF m 97 #[vI p1, vI p2, vI p3, vI 1, vI nv, vR b6, vR b12, vI 1, .unset] [])) _
        refine XS.iload X27.here hx rfl (hb hby at_97) rfl ?_
        show Steps _ _ _ (T27.setTop (mkF m 99 #[vI p1, vI p2, vI p3, vI 1, vI nv, vR b6, vR b12, vI 1, .unset] [iI nv])) _
        refine XS.bipush X27.here hx rfl (hb hby at_99) ?_
        exact kt
      by_cases hc28 : nv = (16 : Int32)
      · have pre30 : ∀ t, Steps p.tables e below (T27.setTop (mkF m 106 #[vI p1, vI p2, vI p3, vI 1, vI nv, vR b6, vR b12, vI 1, .unset] [])) t → Steps p.tables e below (s₁.setTop (entryFrame m #[(.int p1), (.int p2), (.int p3)] maxLocals)) t := by
          intro t kt
          refine pre29 t ?_
          show Steps _ _ _ (T27.setTop (mkF m 101 #[vI p1, vI p2, vI p3, vI 1, vI nv, vR b6, vR b12, vI 1, .unset] [iI 16, iI nv])) _
          refine XS.icmpYes X27.here hx rfl (pc0 := 101) (pc' := 106) rfl (hb hby at_101) rfl (teq hc28).1 (by decide) (by decide) ?_
          exact kt
        rcases hc28 with rfl
        · have fk32 := ((((V11.ext E12).ext E14).ext E16).keep K19q (ninS ne_b6_b12 nin0))
          have fk33 := ((fk17.ext E16).keep K19q)
          obtain ⟨cq31, kq31, q31a, q31b, q31c⟩ := isOf hZ e27 E19q
          obtain ⟨_, _, ⟨T31, L31, k31, n31⟩, -, X31, ⟨Lc31, hQ31, l31, y31, z31⟩, st31⟩ := X27.virtualBack hx (y := (⟨"com/example/threefold/threefold/store/Device", "keys", "()Lcom/example/threefold/threefold/protocol/ActivationKeys;"⟩ : MethodName)) (z := (⟨"com/example/threefold/threefold/store/Device", "keys", "()Lcom/example/threefold/threefold/protocol/ActivationKeys;"⟩ : MethodName)) hown (mvT hZ (hw _ (List.mem_of_getElem? (i := 36) rfl))) (mvT hZ (hw _ (List.mem_of_getElem? (i := 37) rfl))) (notFace_of_selects (args := #[]) (mvT hZ (hw _ (List.mem_of_getElem? (i := 39) rfl)))) (mvT hZ (hw _ (List.mem_of_getElem? (i := 39) rfl))) (mvT hZ (hw _ (List.mem_of_getElem? (i := 38) rfl))) (by decide) (backOf (W := 0) (rm6 l Z a0 hw [] b12 b6 (nar .byte p3.toInt8.toInt32) k6 T19.heap n0 (Nat.le_trans Z0 K19.1) E19q F19q fk32 fk33) hZ (hw _ (List.mem_of_getElem? (i := 40) rfl)) (hw _ (List.mem_of_getElem? (i := 2) rfl)) (by decide) (by decide)) q31a q31c (g := (mkF m 108 #[vI p1, vI p2, vI p3, vI 1, vI 16, vR b6, vR b12, vI 1, .unset] [iR b12])) rfl (by rw [hml]; rfl) (Steps.refl _) (argsL := []) (rest := []) (lenOf pd_6 rfl) rfl (by show 2 * 0 + _ ≤ _; exact Nat.le_of_eq rfl) (hb hby at_108) (fun _ _ => ⟨rfl, e27, (by decide : 4 + 2 ≤ _), (by decide : 133 + 17 ≤ _)⟩)
          dsimp only [Pt.U, Pt.locs, Pt.cells, Pt.slots] at X31 l31 y31 z31 st31 hQ31
          subst l31 y31 z31
          obtain ⟨o31, c31, rfl, N31q, K31q, E31q, F31q, V31q, G31q⟩ := hQ31
          have N31 := Fr.app N19 N31q
          have K31 : Keep h0 T31.heap [] := Keep.trans K19 K31q all0
          obtain ⟨cq34, kq34, q34a, q34b, q34c⟩ := isOf hZ rfl E31q
          obtain ⟨_, _, ⟨T34, L34, k34, n34⟩, -, X34, ⟨Lc34, hQ34, l34, y34, z34⟩, st34⟩ := X31.virtualBack hx (y := (⟨"com/example/threefold/threefold/protocol/ActivationKeys", "masterSecret", "()[B"⟩ : MethodName)) (z := (⟨"com/example/threefold/threefold/protocol/ActivationKeys", "masterSecret", "()[B"⟩ : MethodName)) hown (mvT hZ (hw _ (List.mem_of_getElem? (i := 62) rfl))) (mvT hZ (hw _ (List.mem_of_getElem? (i := 63) rfl))) (notFace_of_selects (args := #[]) (mvT hZ (hw _ (List.mem_of_getElem? (i := 65) rfl)))) (mvT hZ (hw _ (List.mem_of_getElem? (i := 65) rfl))) (mvT hZ (hw _ (List.mem_of_getElem? (i := 64) rfl))) (by decide) (backOf (W := 0) (rm9 l Z a0 hw [] o31 c31 (nar .byte p3.toInt8.toInt32) k6 T31.heap n0 (Nat.le_trans Z0 K31.1) F31q V31q G31q) hZ (hw _ (List.mem_of_getElem? (i := 66) rfl)) (hw _ (List.mem_of_getElem? (i := 43) rfl)) (by decide) (by decide)) q34a q34c (g := (mkF m 111 #[vI p1, vI p2, vI p3, vI 1, vI 16, vR b6, vR b12, vI 1, .unset] [iR o31])) rfl (by rw [hml]; rfl) (Steps.refl _) (argsL := []) (rest := []) (lenOf pd_7 rfl) rfl (by show 2 * 0 + _ ≤ _; exact Nat.le_of_eq rfl) (hb hby at_111) (fun _ _ => ⟨rfl, rfl, (by decide : 6 + 1 ≤ _), (by decide : 150 + 16 ≤ _)⟩)
          dsimp only [Pt.U, Pt.locs, Pt.cells, Pt.slots] at X34 l34 y34 z34 st34 hQ34
          subst l34 y34 z34
          obtain ⟨o34, rfl, N34q, V34q⟩ := hQ34
          have N34 := Fr.app N31 N34q
          obtain ⟨cl35, Ar35, q35, S35, M35, H35, G35⟩ := id V34q
          have hin36 : ¬ ((0 : Int32) < 0 ∨ cl35.slots.size ≤ ((0 : Int32)).toNatClampNeg) := inb_of S35 ⟨by decide, by decide⟩
          have hat37 : cl35.slots[((0 : Int32)).toNatClampNeg]? = some (.int (nar .byte p3.toInt8.toInt32)) := Has.at H35 hin36 rfl
          have hh38 : (nar .byte p3.toInt8.toInt32) = p3.toInt8.toInt32 := own_i2b p3
          obtain ⟨fs, hr, hrun, hended, hW, hsame⟩ := X34.leave (v := some (.int (1 : Int32))) (fun h => by rw [Bd.returns] at h; cases h)
          refine ⟨_, _, pre30 _ ?_, hrun, hended, _, _, rfl, ?_, ⟨_, rfl⟩, hW, hsame.mono (by decide) (by decide)⟩
          · show Steps _ _ _ (T27.setTop (mkF m 106 #[vI p1, vI p2, vI p3, vI 1, vI 16, vR b6, vR b12, vI 1, .unset] [])) _
            refine XS.aload X27.here hx rfl (hb hby at_106) rfl rfl ?_
            show Steps _ _ _ (T27.setTop (mkF m 108 #[vI p1, vI p2, vI p3, vI 1, vI 16, vR b6, vR b12, vI 1, .unset] [iR b12])) _
            refine st31.trans ?_
            show Steps _ _ _ (T31.setTop (mkF m 111 #[vI p1, vI p2, vI p3, vI 1, vI 16, vR b6, vR b12, vI 1, .unset] [iR o31])) _
            refine st34.trans ?_
            show Steps _ _ _ (T34.setTop (mkF m 114 #[vI p1, vI p2, vI p3, vI 1, vI 16, vR b6, vR b12, vI 1, .unset] [iR o34])) _
            refine XS.astore X34.here hx rfl (hb hby at_114) rfl rfl (l' := #[vI p1, vI p2, vI p3, vI 1, vI 16, vR b6, vR b12, vI 1, vR o34]) rfl ?_
            show Steps _ _ _ (T34.setTop (mkF m 116 #[vI p1, vI p2, vI p3, vI 1, vI 16, vR b6, vR b12, vI 1, vR o34] [])) _
            refine XS.aload X34.here hx rfl (hb hby at_116) rfl rfl ?_
            show Steps _ _ _ (T34.setTop (mkF m 118 #[vI p1, vI p2, vI p3, vI 1, vI 16, vR b6, vR b12, vI 1, vR o34] [iR o34])) _
            refine X34.arraylength hx Ar35.1 (State.isArrayOf_alike hZ.alike Ar35.2.1) (g := (mkF m 118 #[vI p1, vI p2, vI p3, vI 1, vI 16, vR b6, vR b12, vI 1, vR o34] [iR o34])) rfl rfl (hb hby at_118) _ ?_
            rw [len_of S35 M35]
            show Steps _ _ _ (T34.setTop (mkF m 119 #[vI p1, vI p2, vI p3, vI 1, vI 16, vR b6, vR b12, vI 1, vR o34] [iI 16])) _
            refine XS.bipush X34.here hx rfl (hb hby at_119) ?_
            show Steps _ _ _ (T34.setTop (mkF m 121 #[vI p1, vI p2, vI p3, vI 1, vI 16, vR b6, vR b12, vI 1, vR o34] [iI 16, iI 16])) _
            refine XS.icmpNo X34.here hx rfl (hb hby at_121) rfl (teq (by decide : (16 : Int32) = (16 : Int32))).2 ?_
            show Steps _ _ _ (T34.setTop (mkF m 124 #[vI p1, vI p2, vI p3, vI 1, vI 16, vR b6, vR b12, vI 1, vR o34] [])) _
            refine XS.aload X34.here hx rfl (hb hby at_124) rfl rfl ?_
            show Steps _ _ _ (T34.setTop (mkF m 126 #[vI p1, vI p2, vI p3, vI 1, vI 16, vR b6, vR b12, vI 1, vR o34] [iR o34])) _
            refine XS.iconst X34.here hx rfl (hb hby at_126) ?_
            show Steps _ _ _ (T34.setTop (mkF m 127 #[vI p1, vI p2, vI p3, vI 1, vI 16, vR b6, vR b12, vI 1, vR o34] [iI 0, iR o34])) _
            refine X34.baloadBytes hx (j := (0 : Int32)) (v := (.int (nar .byte p3.toInt8.toInt32))) Ar35.1 (State.isArrayOf_alike hZ.alike Ar35.2.1) Ar35.2.2 hin36 hat37 (g := (mkF m 127 #[vI p1, vI p2, vI p3, vI 1, vI 16, vR b6, vR b12, vI 1, vR o34] [iI 0, iR o34])) rfl rfl (hb hby at_127) _ ?_
            show Steps _ _ _ (T34.setTop (mkF m 128 #[vI p1, vI p2, vI p3, vI 1, vI 16, vR b6, vR b12, vI 1, vR o34] [iI (nar .byte p3.toInt8.toInt32)])) _
            refine XS.iloadN X34.here hx rfl (hb hby at_128) rfl ?_
            show Steps _ _ _ (T34.setTop (mkF m 129 #[vI p1, vI p2, vI p3, vI 1, vI 16, vR b6, vR b12, vI 1, vR o34] [iI p3, iI (nar .byte p3.toInt8.toInt32)])) _
            refine XS.i2b X34.here hx rfl (hb hby at_129) rfl ?_
            show Steps _ _ _ (T34.setTop (mkF m 130 #[vI p1, vI p2, vI p3, vI 1, vI 16, vR b6, vR b12, vI 1, vR o34] [iI p3.toInt8.toInt32, iI (nar .byte p3.toInt8.toInt32)])) _
            refine XS.icmpNo X34.here hx rfl (hb hby at_130) rfl (teq hh38).2 ?_
            show Steps _ _ _ (T34.setTop (mkF m 133 #[vI p1, vI p2, vI p3, vI 1, vI 16, vR b6, vR b12, vI 1, vR o34] [])) _
            refine XS.iconst X34.here hx rfl (hb hby at_133) ?_
            show Steps _ _ _ (T34.setTop (mkF m 134 #[vI p1, vI p2, vI p3, vI 1, vI 16, vR b6, vR b12, vI 1, vR o34] [iI 1])) _
            refine XS.goto X34.here hx rfl (pc0 := 134) (pc' := 138) rfl (hb hby at_134) (by decide) (by decide) ?_
            show Steps _ _ _ (T34.setTop (mkF m 138 #[vI p1, vI p2, vI p3, vI 1, vI 16, vR b6, vR b12, vI 1, vR o34] [iI 1])) _
            exact retN X34 hx (t := .boolean) Bd.returns (by simp) (hb hby at_138) hr
          · show Q0 Z p1 p2 p3 h0 n0 _ T34.heap _
            exact ⟨rfl, N34⟩
      · obtain ⟨fs, hr, hrun, hended, hW, hsame⟩ := X27.leave (v := some (.int (1 : Int32))) (fun h => by rw [Bd.returns] at h; cases h)
        refine ⟨_, _, pre29 _ ?_, hrun, hended, _, _, rfl, ?_, ⟨_, rfl⟩, hW, hsame.mono (by decide) (by decide)⟩
        · show Steps _ _ _ (T27.setTop (mkF m 101 #[vI p1, vI p2, vI p3, vI 1, vI nv, vR b6, vR b12, vI 1, .unset] [iI 16, iI nv])) _
          refine XS.icmpNo X27.here hx rfl (hb hby at_101) rfl (feq hc28).1 ?_
          show Steps _ _ _ (T27.setTop (mkF m 104 #[vI p1, vI p2, vI p3, vI 1, vI nv, vR b6, vR b12, vI 1, .unset] [])) _
          refine XS.iconst X27.here hx rfl (hb hby at_104) ?_
          show Steps _ _ _ (T27.setTop (mkF m 105 #[vI p1, vI p2, vI p3, vI 1, vI nv, vR b6, vR b12, vI 1, .unset] [iI 1])) _
          exact retN X27 hx (t := .boolean) Bd.returns (by simp) (hb hby at_105) hr
        · show Q0 Z p1 p2 p3 h0 n0 _ T27.heap _
          rw [e27]
          exact ⟨rfl, N19⟩
    · obtain ⟨T39, h39, X39, e39, E39, A39, D39, -, st39⟩ := newO X6 hx hZ hown (hw _ (List.mem_of_getElem? (i := 0) rfl)) (hw _ (List.mem_of_getElem? (i := 1) rfl)) (hw _ (List.mem_of_getElem? (i := 2) rfl)) e6 (g := (mkF m 42 #[vI p1, vI p2, vI p3, vI 1, vI nv, vR b6, .unset, .unset, .unset] [])) rfl (hb hby at_42) (by decide) (by decide)
      obtain ⟨b39, g39⟩ : ∃ z, z = h6.size := ⟨_, rfl⟩
      rw [← g39] at A39 D39 st39
      have ne_b6_b39 : b6 ≠ b39 := Nat.ne_of_lt (Nat.lt_of_lt_of_le B6.lt (Nat.le_of_eq g39.symm))
      have sz_b39 : h0.size ≤ b39 := Nat.le_trans K6.1 (Nat.le_of_eq g39.symm)
      have g_b39 : n0 ≤ b39 := Nat.le_trans Z0 sz_b39
      have K39 : Keep h0 h39 [] := K6.ext E39
      have F_serverPrivateKey_b39 : Fld Z h39 b39 "com/example/threefold/threefold/store/Device" "serverPrivateKey" "[B" .null := D39 (Or.inr (hw _ (List.mem_of_getElem? (i := 16) rfl))) (ty := (.array .byte)) (by decide)
      have F_devicePublicKey_b39 : Fld Z h39 b39 "com/example/threefold/threefold/store/Device" "devicePublicKey" "[B" .null := D39 (Or.inr (hw _ (List.mem_of_getElem? (i := 18) rfl))) (ty := (.array .byte)) (by decide)
      have F_masterSecret_b39 : Fld Z h39 b39 "com/example/threefold/threefold/store/Device" "masterSecret" "[B" .null := D39 (Or.inr (hw _ (List.mem_of_getElem? (i := 20) rfl))) (ty := (.array .byte)) (by decide)
      have F_activationName_b39 : Fld Z h39 b39 "com/example/threefold/threefold/store/Device" "activationName" "Ljava/lang/String;" .null := D39 (Or.inr (hw _ (List.mem_of_getElem? (i := 22) rfl))) (ty := (.object "java/lang/String")) (by decide)
      have F_extras_b39 : Fld Z h39 b39 "com/example/threefold/threefold/store/Device" "extras" "Ljava/lang/String;" .null := D39 (Or.inr (hw _ (List.mem_of_getElem? (i := 24) rfl))) (ty := (.object "java/lang/String")) (by decide)
      obtain ⟨T40, h40, k40, X40, e40, E40, A40, B40, st40⟩ := newPE X39 hx hZ (hw _ (List.mem_of_getElem? (i := 3) rfl)) e39 (g := (mkF m 48 #[vI p1, vI p2, vI p3, vI 1, vI nv, vR b6, .unset, .unset, .unset] [iI 32, iR b39, iR b39])) rfl (hb hby at_48) rfl (by decide) (cap := 32) (by decide) (by decide) (by decide) (by decide) rfl
      obtain ⟨b40, g40⟩ : ∃ z, z = h39.size := ⟨_, rfl⟩
      rw [← g40] at A40 B40 st40
      have fk41 := (B6.ext E39)
      have ne_b6_b40 : b6 ≠ b40 := Nat.ne_of_lt (Nat.lt_of_lt_of_le fk41.lt (Nat.le_of_eq g40.symm))
      have ne_b39_b40 : b39 ≠ b40 := Nat.ne_of_lt (Nat.lt_of_lt_of_le A39.lt (Nat.le_of_eq g40.symm))
      have sz_b40 : h0.size ≤ b40 := Nat.le_trans K39.1 (Nat.le_of_eq g40.symm)
      have g_b40 : n0 ≤ b40 := Nat.le_trans Z0 sz_b40
      have K40 : Keep h0 h40 [] := K39.ext E40
      have V40 : Arv Z h40 b40 k40 .byte (32 : Int32) [(.int (0 : Int32)), (.int (0 : Int32)), (.int (0 : Int32)), (.int (0 : Int32)), (.int (0 : Int32)), (.int (0 : Int32)), (.int (0 : Int32)), (.int (0 : Int32)), (.int (0 : Int32)), (.int (0 : Int32)), (.int (0 : Int32)), (.int (0 : Int32)), (.int (0 : Int32)), (.int (0 : Int32)), (.int (0 : Int32)), (.int (0 : Int32)), (.int (0 : Int32)), (.int (0 : Int32)), (.int (0 : Int32)), (.int (0 : Int32)), (.int (0 : Int32)), (.int (0 : Int32)), (.int (0 : Int32)), (.int (0 : Int32)), (.int (0 : Int32)), (.int (0 : Int32)), (.int (0 : Int32)), (.int (0 : Int32)), (.int (0 : Int32)), (.int (0 : Int32)), (.int (0 : Int32)), (.int (0 : Int32))] (.int (0 : Int32)) := (Arv.new A40 (by decide)).pad (pad_rep [] (.int (0 : Int32)) 32)
      obtain ⟨T42, h42, k42, X42, e42, E42, A42, B42, st42⟩ := newPE X40 hx hZ (hw _ (List.mem_of_getElem? (i := 3) rfl)) e40 (g := (mkF m 52 #[vI p1, vI p2, vI p3, vI 1, vI nv, vR b6, .unset, .unset, .unset] [iI 65, iR b40, iR b39, iR b39])) rfl (hb hby at_52) rfl (by decide) (cap := 65) (by decide) (by decide) (by decide) (by decide) rfl
      obtain ⟨b42, g42⟩ : ∃ z, z = h40.size := ⟨_, rfl⟩
      rw [← g42] at A42 B42 st42
      have fk43 := (fk41.ext E40)
      have ne_b6_b42 : b6 ≠ b42 := Nat.ne_of_lt (Nat.lt_of_lt_of_le fk43.lt (Nat.le_of_eq g42.symm))
      have fk44 := (A39.ext E40)
      have ne_b39_b42 : b39 ≠ b42 := Nat.ne_of_lt (Nat.lt_of_lt_of_le fk44.lt (Nat.le_of_eq g42.symm))
      have ne_b40_b42 : b40 ≠ b42 := Nat.ne_of_lt (Nat.lt_of_lt_of_le B40.lt (Nat.le_of_eq g42.symm))
      have sz_b42 : h0.size ≤ b42 := Nat.le_trans K40.1 (Nat.le_of_eq g42.symm)
      have g_b42 : n0 ≤ b42 := Nat.le_trans Z0 sz_b42
      have K42 : Keep h0 h42 [] := K40.ext E42
      have V42 : Arv Z h42 b42 k42 .byte (65 : Int32) [] (.int (0 : Int32)) := (Arv.new A42 (by decide)).pad (pad_rep [] (.int (0 : Int32)) 0)
      have fk46 := (fk44.ext E42)
      have fk47 := ((F_serverPrivateKey_b39.ext E40).ext E42)
      have fk48 := ((F_devicePublicKey_b39.ext E40).ext E42)
      have fk49 := ((F_masterSecret_b39.ext E40).ext E42)
      have fk50 := ((F_activationName_b39.ext E40).ext E42)
      have fk51 := ((F_extras_b39.ext E40).ext E42)
      obtain ⟨_, _, ⟨T45, L45, k45, n45⟩, -, X45, ⟨Lc45, hQ45, l45, y45, z45⟩, st45⟩ := X42.specialBack hx (y := (⟨"com/example/threefold/threefold/store/Device", "<init>", "([B[B[BLjava/lang/String;Ljava/lang/String;)V"⟩ : MethodName)) rfl hown (mvT hZ (hw _ (List.mem_of_getElem? (i := 4) rfl))) (mvT hZ (hw _ (List.mem_of_getElem? (i := 5) rfl))) (mvT hZ (hw _ (List.mem_of_getElem? (i := 6) rfl))) (by decide) (backOf (W := 1) (rm1_s l Z a0 hw [] b39 b40 b42 b6 h42 n0 (Nat.le_trans Z0 K42.1) fk46 g_b39 fk47 fk48 fk49 fk50 fk51) hZ (hw _ (List.mem_of_getElem? (i := 6) rfl)) (hw _ (List.mem_of_getElem? (i := 2) rfl)) (by decide) (by decide)) (g := (mkF m 58 #[vI p1, vI p2, vI p3, vI 1, vI nv, vR b6, .unset, .unset, .unset] [.null, .null, iR b6, iR b42, iR b40, iR b39, iR b39])) rfl (by rw [hml]; rfl) (Steps.refl _) (a := b39) (argsL := [(.ref b40), (.ref b42), (.ref b6), .null, .null]) (rest := [(.ref b39)]) (lenOf pd_4 rfl) rfl (by show 2 * 0 + _ ≤ _; exact Nat.le_of_eq rfl) (hb hby at_58) (fun _ _ => ⟨rfl, e42, (by decide : 4 + 0 ≤ _), (by decide : 133 + 0 ≤ _)⟩)
      dsimp only [Pt.U, Pt.locs, Pt.cells, Pt.slots] at X45 l45 y45 z45 st45 hQ45
      subst l45 y45 z45
      obtain ⟨rfl, N45q, K45q, E45q, F45q⟩ := hQ45
      have N45 := Fr.app N0 N45q
      have K45 : Keep h0 T45.heap [] := Keep.trans K42 K45q (allS (Or.inr sz_b39) all0)
      obtain ⟨cq52, kq52, q52a, q52b, q52c⟩ := isOf hZ rfl E45q
      obtain ⟨_, _, ⟨T52, L52, k52, n52⟩, -, X52, ⟨Lc52, hQ52, l52, y52, z52⟩, st52⟩ := X45.virtualBack hx (y := (⟨"com/example/threefold/threefold/store/Device", "hasMasterSecret", "()Z"⟩ : MethodName)) (z := (⟨"com/example/threefold/threefold/store/Device", "hasMasterSecret", "()Z"⟩ : MethodName)) hown (mvT hZ (hw _ (List.mem_of_getElem? (i := 25) rfl))) (mvT hZ (hw _ (List.mem_of_getElem? (i := 26) rfl))) (notFace_of_selects (args := #[]) (mvT hZ (hw _ (List.mem_of_getElem? (i := 28) rfl)))) (mvT hZ (hw _ (List.mem_of_getElem? (i := 28) rfl))) (mvT hZ (hw _ (List.mem_of_getElem? (i := 27) rfl))) (by decide) (backOf (W := 0) (rm4_s l Z a0 hw [] b39 b6 T45.heap F45q) hZ (hw _ (List.mem_of_getElem? (i := 29) rfl)) (hw _ (List.mem_of_getElem? (i := 2) rfl)) (by decide) (by decide)) q52a q52c (g := (mkF m 65 #[vI p1, vI p2, vI p3, vI 1, vI nv, vR b6, vR b39, .unset, .unset] [iR b39])) rfl (by rw [hml]; rfl) (Steps.refl _) (argsL := []) (rest := []) (lenOf pd_1 rfl) rfl (by show 2 * 0 + _ ≤ _; exact Nat.le_of_eq rfl) (hb hby at_65) (fun _ _ => ⟨rfl, rfl, (by decide : 4 + 0 ≤ _), (by decide : 133 + 0 ≤ _)⟩)
      dsimp only [Pt.U, Pt.locs, Pt.cells, Pt.slots] at X52 l52 y52 z52 st52 hQ52
      subst l52 y52 z52
      obtain ⟨rfl, rfl, e52⟩ := hQ52
      try rw [List.append_nil] at X52
      obtain ⟨cq53, kq53, q53a, q53b, q53c⟩ := isOf hZ e52 E45q
      obtain ⟨_, _, ⟨T53, L53, k53, n53⟩, -, X53, ⟨Lc53, hQ53, l53, y53, z53⟩, st53⟩ := X52.virtualBack hx (y := (⟨"com/example/threefold/threefold/store/Device", "withMasterSecret", "()Lcom/example/threefold/threefold/store/Device;"⟩ : MethodName)) (z := (⟨"com/example/threefold/threefold/store/Device", "withMasterSecret", "()Lcom/example/threefold/threefold/store/Device;"⟩ : MethodName)) hown (mvT hZ (hw _ (List.mem_of_getElem? (i := 30) rfl))) (mvT hZ (hw _ (List.mem_of_getElem? (i := 31) rfl))) (notFace_of_selects (args := #[]) (mvT hZ (hw _ (List.mem_of_getElem? (i := 33) rfl)))) (mvT hZ (hw _ (List.mem_of_getElem? (i := 33) rfl))) (mvT hZ (hw _ (List.mem_of_getElem? (i := 32) rfl))) (by decide) (backOf (W := 0) (rm5 l Z a0 hw [] b39 b6 T45.heap E45q F45q) hZ (hw _ (List.mem_of_getElem? (i := 34) rfl)) (hw _ (List.mem_of_getElem? (i := 2) rfl)) (by decide) (by decide)) q53a q53c (g := (mkF m 87 #[vI p1, vI p2, vI p3, vI 1, vI nv, vR b6, vR b39, vI 1, .unset] [iR b39])) rfl (by rw [hml]; rfl) (Steps.refl _) (argsL := []) (rest := []) (lenOf pd_5 rfl) rfl (by show 2 * 0 + _ ≤ _; exact Nat.le_of_eq rfl) (hb hby at_87) (fun _ _ => ⟨rfl, e52, (by decide : 4 + 0 ≤ _), (by decide : 133 + 0 ≤ _)⟩)
      dsimp only [Pt.U, Pt.locs, Pt.cells, Pt.slots] at X53 l53 y53 z53 st53 hQ53
      subst l53 y53 z53
      obtain ⟨rfl, rfl, e53⟩ := hQ53
      try rw [List.append_nil] at X53
      have pre55 : ∀ t, Steps p.tables e below (T53.setTop (mkF m 101 #[vI p1, vI p2, vI p3, vI 1, vI nv, vR b6, vR b39, vI 1, .unset] [iI 16, iI nv])) t → Steps p.tables e below (s₁.setTop (entryFrame m #[(.int p1), (.int p2), (.int p3)] maxLocals)) t := by
        intro t kt
        refine pre8 t ?_
        show Steps _ _ _ (T6.setTop (mkF m 33 #[vI p1, vI p2, vI p3, vI 1, vI nv, vR b6, .unset, .unset, .unset] [iI nv])) _
        refine XS.ifYes X6.here hx rfl (pc0 := 33) (pc' := 42) rfl (hb hby at_33) rfl ((if0 _ _).trans (flt hc7).2.2.2) (by decide) (by decide) ?_
        show Steps _ _ _ (T6.setTop (mkF m 42 #[vI p1, vI p2, vI p3, vI 1, vI nv, vR b6, .unset, .unset, .unset] [])) _
        refine st39 _ ?_
        show Steps _ _ _ (T39.setTop (mkF m 45 #[vI p1, vI p2, vI p3, vI 1, vI nv, vR b6, .unset, .unset, .unset] [iR b39])) _
        refine XS.dup X39.here hx rfl (hb hby at_45) rfl rfl ?_
        show Steps _ _ _ (T39.setTop (mkF m 46 #[vI p1, vI p2, vI p3, vI 1, vI nv, vR b6, .unset, .unset, .unset] [iR b39, iR b39])) _
        refine XS.bipush X39.here hx rfl (hb hby at_46) ?_
        show Steps _ _ _ (T39.setTop (mkF m 48 #[vI p1, vI p2, vI p3, vI 1, vI nv, vR b6, .unset, .unset, .unset] [iI 32, iR b39, iR b39])) _
        refine st40 _ ?_
        show Steps _ _ _ (T40.setTop (mkF m 50 #[vI p1, vI p2, vI p3, vI 1, vI nv, vR b6, .unset, .unset, .unset] [iR b40, iR b39, iR b39])) _
        refine XS.bipush X40.here hx rfl (hb hby at_50) ?_
        show Steps _ _ _ (T40.setTop (mkF m 52 #[vI p1, vI p2, vI p3, vI 1, vI nv, vR b6, .unset, .unset, .unset] [iI 65, iR b40, iR b39, iR b39])) _
        refine st42 _ ?_
        show Steps _ _ _ (T42.setTop (mkF m 54 #[vI p1, vI p2, vI p3, vI 1, vI nv, vR b6, .unset, .unset, .unset] [iR b42, iR b40, iR b39, iR b39])) _
        refine XS.aload X42.here hx rfl (hb hby at_54) rfl rfl ?_
        show Steps _ _ _ (T42.setTop (mkF m 56 #[vI p1, vI p2, vI p3, vI 1, vI nv, vR b6, .unset, .unset, .unset] [iR b6, iR b42, iR b40, iR b39, iR b39])) _
        refine XS.aconstNull X42.here hx rfl (hb hby at_56) ?_
        show Steps _ _ _ (T42.setTop (mkF m 57 #[vI p1, vI p2, vI p3, vI 1, vI nv, vR b6, .unset, .unset, .unset] [.null, iR b6, iR b42, iR b40, iR b39, iR b39])) _
        refine XS.aconstNull X42.here hx rfl (hb hby at_57) ?_
        show Steps _ _ _ (T42.setTop (mkF m 58 #[vI p1, vI p2, vI p3, vI 1, vI nv, vR b6, .unset, .unset, .unset] [.null, .null, iR b6, iR b42, iR b40, iR b39, iR b39])) _
        refine st45.trans ?_
        show Steps _ _ _ (T45.setTop (mkF m 61 #[vI p1, vI p2, vI p3, vI 1, vI nv, vR b6, .unset, .unset, .unset] [iR b39])) _
        refine XS.astore X45.here hx rfl (hb hby at_61) rfl rfl (l' := #[vI p1, vI p2, vI p3, vI 1, vI nv, vR b6, vR b39, .unset, .unset]) rfl ?_
        show Steps _ _ _ (T45.setTop (mkF m 63 #[vI p1, vI p2, vI p3, vI 1, vI nv, vR b6, vR b39, .unset, .unset] [])) _
        refine XS.aload X45.here hx rfl (hb hby at_63) rfl rfl ?_
        show Steps _ _ _ (T45.setTop (mkF m 65 #[vI p1, vI p2, vI p3, vI 1, vI nv, vR b6, vR b39, .unset, .unset] [iR b39])) _
        refine st52.trans ?_
        show Steps _ _ _ (T52.setTop (mkF m 68 #[vI p1, vI p2, vI p3, vI 1, vI nv, vR b6, vR b39, .unset, .unset] [iI 1])) _
        refine XS.istore X52.here hx rfl (hb hby at_68) rfl (l' := #[vI p1, vI p2, vI p3, vI 1, vI nv, vR b6, vR b39, vI 1, .unset]) rfl ?_
        show Steps _ _ _ (T52.setTop (mkF m 70 #[vI p1, vI p2, vI p3, vI 1, vI nv, vR b6, vR b39, vI 1, .unset] [])) _
        refine XS.iload X52.here hx rfl (hb hby at_70) rfl ?_
        show Steps _ _ _ (T52.setTop (mkF m 72 #[vI p1, vI p2, vI p3, vI 1, vI nv, vR b6, vR b39, vI 1, .unset] [iI 1])) _
        refine XS.iloadN X52.here hx rfl (hb hby at_72) rfl ?_
        show Steps _ _ _ (T52.setTop (mkF m 73 #[vI p1, vI p2, vI p3, vI 1, vI nv, vR b6, vR b39, vI 1, .unset] [iI 1, iI 1])) _
        refine XS.icmpYes X52.here hx rfl (pc0 := 73) (pc' := 78) rfl (hb hby at_73) rfl (teq (by decide : (1 : Int32) = (1 : Int32))).1 (by decide) (by decide) ?_
        show Steps _ _ _ (T52.setTop (mkF m 78 #[vI p1, vI p2, vI p3, vI 1, vI nv, vR b6, vR b39, vI 1, .unset] [])) _
        refine XS.iload X52.here hx rfl (hb hby at_78) rfl ?_
        show Steps _ _ _ (T52.setTop (mkF m 80 #[vI p1, vI p2, vI p3, vI 1, vI nv, vR b6, vR b39, vI 1, .unset] [iI 1])) _
        refine XS.ifYes X52.here hx rfl (pc0 := 80) (pc' := 85) rfl (hb hby at_80) rfl ((if0 _ _).trans (feq (by decide : ¬ ((1 : Int32) = (0 : Int32)))).2) (by decide) (by decide) ?_
        show Steps _ _ _ (T52.setTop (mkF m 85 #[vI p1, vI p2, vI p3, vI 1, vI nv, vR b6, vR b39, vI 1, .unset] [])) _
        refine XS.aload X52.here hx rfl (hb hby at_85) rfl rfl ?_
        show Steps _ _ _ (T52.setTop (mkF m 87 #[vI p1, vI p2, vI p3, vI 1, vI nv, vR b6, vR b39, vI 1, .unset] [iR b39])) _
        refine st53.trans ?_
        show Steps _ _ _ (T53.setTop (mkF m 90 #[vI p1, vI p2, vI p3, vI 1, vI nv, vR b6, vR b39, vI 1, .unset] [iR b39])) _
        refine XS.aload X53.here hx rfl (hb hby at_90) rfl rfl ?_
        show Steps _ _ _ (T53.setTop (mkF m 92 #[vI p1, vI p2, vI p3, vI 1, vI nv, vR b6, vR b39, vI 1, .unset] [iR b39, iR b39])) _
        refine Jvm.RoadKit.acmp (g := (mkF m 92 #[vI p1, vI p2, vI p3, vI 1, vI nv, vR b6, vR b39, vI 1, .unset] [iR b39, iR b39])) X53 hx rfl rfl rfl (pc0 := 92) (pc' := 97) (same := true) rfl (hb hby at_92) rfl (decide_eq_true rfl) (by decide) (by decide) ?_
        show Steps _ _ _ (T53.setTop (mkF m 97 #[vI p1, vI p2, vI p3, vI 1, vI nv, vR b6, vR b39, vI 1, .unset] [])) _
        refine XS.iload X53.here hx rfl (hb hby at_97) rfl ?_
        show Steps _ _ _ (T53.setTop (mkF m 99 #[vI p1, vI p2, vI p3, vI 1, vI nv, vR b6, vR b39, vI 1, .unset] [iI nv])) _
        refine XS.bipush X53.here hx rfl (hb hby at_99) ?_
        exact kt
      by_cases hc54 : nv = (16 : Int32)
      · exfalso; exact hc7 (by rw [hc54]; decide)
      · obtain ⟨fs, hr, hrun, hended, hW, hsame⟩ := X53.leave (v := some (.int (1 : Int32))) (fun h => by rw [Bd.returns] at h; cases h)
        refine ⟨_, _, pre55 _ ?_, hrun, hended, _, _, rfl, ?_, ⟨_, rfl⟩, hW, hsame.mono (by decide) (by decide)⟩
        · show Steps _ _ _ (T53.setTop (mkF m 101 #[vI p1, vI p2, vI p3, vI 1, vI nv, vR b6, vR b39, vI 1, .unset] [iI 16, iI nv])) _
          refine XS.icmpNo X53.here hx rfl (hb hby at_101) rfl (feq hc54).1 ?_
          show Steps _ _ _ (T53.setTop (mkF m 104 #[vI p1, vI p2, vI p3, vI 1, vI nv, vR b6, vR b39, vI 1, .unset] [])) _
          refine XS.iconst X53.here hx rfl (hb hby at_104) ?_
          show Steps _ _ _ (T53.setTop (mkF m 105 #[vI p1, vI p2, vI p3, vI 1, vI nv, vR b6, vR b39, vI 1, .unset] [iI 1])) _
          exact retN X53 hx (t := .boolean) Bd.returns (by simp) (hb hby at_105) hr
        · show Q0 Z p1 p2 p3 h0 n0 _ T53.heap _
          rw [e53]
          exact ⟨rfl, N45⟩
  · obtain ⟨nv, hnv⟩ : ∃ z : Int32, z = (p2 &&& (31 : Int32)) := ⟨_, rfl⟩
    have qn : ¬ nv < 0 ∧ nv.toNatClampNeg ≤ 31 := by rw [hnv]; exact own_b31 p2
    obtain ⟨T57, h57, X57, e57, E57, A57, D57, -, st57⟩ := newO X2 hx hZ hown (hw _ (List.mem_of_getElem? (i := 0) rfl)) (hw _ (List.mem_of_getElem? (i := 1) rfl)) (hw _ (List.mem_of_getElem? (i := 2) rfl)) e2 (g := (mkF m 42 #[vI p1, vI p2, vI p3, vI 0, vI nv, .val .null, .unset, .unset, .unset] [])) rfl (hb hby at_42) (by decide) (by decide)
    obtain ⟨b57, g57⟩ : ∃ z, z = h0.size := ⟨_, rfl⟩
    rw [← g57] at A57 D57 st57
    have sz_b57 : h0.size ≤ b57 := Nat.le_trans K0.1 (Nat.le_of_eq g57.symm)
    have g_b57 : n0 ≤ b57 := Nat.le_trans Z0 sz_b57
    have K57 : Keep h0 h57 [] := K0.ext E57
    have F_serverPrivateKey_b57 : Fld Z h57 b57 "com/example/threefold/threefold/store/Device" "serverPrivateKey" "[B" .null := D57 (Or.inr (hw _ (List.mem_of_getElem? (i := 16) rfl))) (ty := (.array .byte)) (by decide)
    have F_devicePublicKey_b57 : Fld Z h57 b57 "com/example/threefold/threefold/store/Device" "devicePublicKey" "[B" .null := D57 (Or.inr (hw _ (List.mem_of_getElem? (i := 18) rfl))) (ty := (.array .byte)) (by decide)
    have F_masterSecret_b57 : Fld Z h57 b57 "com/example/threefold/threefold/store/Device" "masterSecret" "[B" .null := D57 (Or.inr (hw _ (List.mem_of_getElem? (i := 20) rfl))) (ty := (.array .byte)) (by decide)
    have F_activationName_b57 : Fld Z h57 b57 "com/example/threefold/threefold/store/Device" "activationName" "Ljava/lang/String;" .null := D57 (Or.inr (hw _ (List.mem_of_getElem? (i := 22) rfl))) (ty := (.object "java/lang/String")) (by decide)
    have F_extras_b57 : Fld Z h57 b57 "com/example/threefold/threefold/store/Device" "extras" "Ljava/lang/String;" .null := D57 (Or.inr (hw _ (List.mem_of_getElem? (i := 24) rfl))) (ty := (.object "java/lang/String")) (by decide)
    obtain ⟨T58, h58, k58, X58, e58, E58, A58, B58, st58⟩ := newPE X57 hx hZ (hw _ (List.mem_of_getElem? (i := 3) rfl)) e57 (g := (mkF m 48 #[vI p1, vI p2, vI p3, vI 0, vI nv, .val .null, .unset, .unset, .unset] [iI 32, iR b57, iR b57])) rfl (hb hby at_48) rfl (by decide) (cap := 32) (by decide) (by decide) (by decide) (by decide) rfl
    obtain ⟨b58, g58⟩ : ∃ z, z = h57.size := ⟨_, rfl⟩
    rw [← g58] at A58 B58 st58
    have ne_b57_b58 : b57 ≠ b58 := Nat.ne_of_lt (Nat.lt_of_lt_of_le A57.lt (Nat.le_of_eq g58.symm))
    have sz_b58 : h0.size ≤ b58 := Nat.le_trans K57.1 (Nat.le_of_eq g58.symm)
    have g_b58 : n0 ≤ b58 := Nat.le_trans Z0 sz_b58
    have K58 : Keep h0 h58 [] := K57.ext E58
    have V58 : Arv Z h58 b58 k58 .byte (32 : Int32) [(.int (0 : Int32)), (.int (0 : Int32)), (.int (0 : Int32)), (.int (0 : Int32)), (.int (0 : Int32)), (.int (0 : Int32)), (.int (0 : Int32)), (.int (0 : Int32)), (.int (0 : Int32)), (.int (0 : Int32)), (.int (0 : Int32)), (.int (0 : Int32)), (.int (0 : Int32)), (.int (0 : Int32)), (.int (0 : Int32)), (.int (0 : Int32)), (.int (0 : Int32)), (.int (0 : Int32)), (.int (0 : Int32)), (.int (0 : Int32)), (.int (0 : Int32)), (.int (0 : Int32)), (.int (0 : Int32)), (.int (0 : Int32)), (.int (0 : Int32)), (.int (0 : Int32)), (.int (0 : Int32)), (.int (0 : Int32)), (.int (0 : Int32)), (.int (0 : Int32)), (.int (0 : Int32)), (.int (0 : Int32))] (.int (0 : Int32)) := (Arv.new A58 (by decide)).pad (pad_rep [] (.int (0 : Int32)) 32)
    obtain ⟨T59, h59, k59, X59, e59, E59, A59, B59, st59⟩ := newPE X58 hx hZ (hw _ (List.mem_of_getElem? (i := 3) rfl)) e58 (g := (mkF m 52 #[vI p1, vI p2, vI p3, vI 0, vI nv, .val .null, .unset, .unset, .unset] [iI 65, iR b58, iR b57, iR b57])) rfl (hb hby at_52) rfl (by decide) (cap := 65) (by decide) (by decide) (by decide) (by decide) rfl
    obtain ⟨b59, g59⟩ : ∃ z, z = h58.size := ⟨_, rfl⟩
    rw [← g59] at A59 B59 st59
    have fk60 := (A57.ext E58)
    have ne_b57_b59 : b57 ≠ b59 := Nat.ne_of_lt (Nat.lt_of_lt_of_le fk60.lt (Nat.le_of_eq g59.symm))
    have ne_b58_b59 : b58 ≠ b59 := Nat.ne_of_lt (Nat.lt_of_lt_of_le B58.lt (Nat.le_of_eq g59.symm))
    have sz_b59 : h0.size ≤ b59 := Nat.le_trans K58.1 (Nat.le_of_eq g59.symm)
    have g_b59 : n0 ≤ b59 := Nat.le_trans Z0 sz_b59
    have K59 : Keep h0 h59 [] := K58.ext E59
    have V59 : Arv Z h59 b59 k59 .byte (65 : Int32) [] (.int (0 : Int32)) := (Arv.new A59 (by decide)).pad (pad_rep [] (.int (0 : Int32)) 0)
    have fk62 := (fk60.ext E59)
    have fk63 := ((F_serverPrivateKey_b57.ext E58).ext E59)
    have fk64 := ((F_devicePublicKey_b57.ext E58).ext E59)
    have fk65 := ((F_masterSecret_b57.ext E58).ext E59)
    have fk66 := ((F_activationName_b57.ext E58).ext E59)
    have fk67 := ((F_extras_b57.ext E58).ext E59)
    obtain ⟨_, _, ⟨T61, L61, k61, n61⟩, -, X61, ⟨Lc61, hQ61, l61, y61, z61⟩, st61⟩ := X59.specialBack hx (y := (⟨"com/example/threefold/threefold/store/Device", "<init>", "([B[B[BLjava/lang/String;Ljava/lang/String;)V"⟩ : MethodName)) rfl hown (mvT hZ (hw _ (List.mem_of_getElem? (i := 4) rfl))) (mvT hZ (hw _ (List.mem_of_getElem? (i := 5) rfl))) (mvT hZ (hw _ (List.mem_of_getElem? (i := 6) rfl))) (by decide) (backOf (W := 1) (rm1_n l Z a0 hw [] b57 b58 b59 h59 n0 (Nat.le_trans Z0 K59.1) fk62 g_b57 fk63 fk64 fk65 fk66 fk67) hZ (hw _ (List.mem_of_getElem? (i := 6) rfl)) (hw _ (List.mem_of_getElem? (i := 2) rfl)) (by decide) (by decide)) (g := (mkF m 58 #[vI p1, vI p2, vI p3, vI 0, vI nv, .val .null, .unset, .unset, .unset] [.null, .null, .null, iR b59, iR b58, iR b57, iR b57])) rfl (by rw [hml]; rfl) (Steps.refl _) (a := b57) (argsL := [(.ref b58), (.ref b59), .null, .null, .null]) (rest := [(.ref b57)]) (lenOf pd_4 rfl) rfl (by show 2 * 0 + _ ≤ _; exact Nat.le_of_eq rfl) (hb hby at_58) (fun _ _ => ⟨rfl, e59, (by decide : 3 + 0 ≤ _), (by decide : 102 + 0 ≤ _)⟩)
    dsimp only [Pt.U, Pt.locs, Pt.cells, Pt.slots] at X61 l61 y61 z61 st61 hQ61
    subst l61 y61 z61
    obtain ⟨rfl, N61q, K61q, E61q, F61q⟩ := hQ61
    have N61 := Fr.app N0 N61q
    have K61 : Keep h0 T61.heap [] := Keep.trans K59 K61q (allS (Or.inr sz_b57) all0)
    obtain ⟨cq68, kq68, q68a, q68b, q68c⟩ := isOf hZ rfl E61q
    obtain ⟨_, _, ⟨T68, L68, k68, n68⟩, -, X68, ⟨Lc68, hQ68, l68, y68, z68⟩, st68⟩ := X61.virtualBack hx (y := (⟨"com/example/threefold/threefold/store/Device", "hasMasterSecret", "()Z"⟩ : MethodName)) (z := (⟨"com/example/threefold/threefold/store/Device", "hasMasterSecret", "()Z"⟩ : MethodName)) hown (mvT hZ (hw _ (List.mem_of_getElem? (i := 25) rfl))) (mvT hZ (hw _ (List.mem_of_getElem? (i := 26) rfl))) (notFace_of_selects (args := #[]) (mvT hZ (hw _ (List.mem_of_getElem? (i := 28) rfl)))) (mvT hZ (hw _ (List.mem_of_getElem? (i := 28) rfl))) (mvT hZ (hw _ (List.mem_of_getElem? (i := 27) rfl))) (by decide) (backOf (W := 0) (rm4_n l Z a0 hw [] b57 T61.heap F61q) hZ (hw _ (List.mem_of_getElem? (i := 29) rfl)) (hw _ (List.mem_of_getElem? (i := 2) rfl)) (by decide) (by decide)) q68a q68c (g := (mkF m 65 #[vI p1, vI p2, vI p3, vI 0, vI nv, .val .null, vR b57, .unset, .unset] [iR b57])) rfl (by rw [hml]; rfl) (Steps.refl _) (argsL := []) (rest := []) (lenOf pd_1 rfl) rfl (by show 2 * 0 + _ ≤ _; exact Nat.le_of_eq rfl) (hb hby at_65) (fun _ _ => ⟨rfl, rfl, (by decide : 3 + 0 ≤ _), (by decide : 102 + 0 ≤ _)⟩)
    dsimp only [Pt.U, Pt.locs, Pt.cells, Pt.slots] at X68 l68 y68 z68 st68 hQ68
    subst l68 y68 z68
    obtain ⟨rfl, rfl, e68⟩ := hQ68
    try rw [List.append_nil] at X68
    obtain ⟨fs, hr, hrun, hended, hW, hsame⟩ := X68.leave (v := some (.int (1 : Int32))) (fun h => by rw [Bd.returns] at h; cases h)
    refine ⟨_, _, pre4 _ ?_, hrun, hended, _, _, rfl, ?_, ⟨_, rfl⟩, hW, hsame.mono (by decide) (by decide)⟩
    · show Steps _ _ _ (T2.setTop (mkF m 12 #[vI p1, vI p2, vI p3, vI 0, .unset, .unset, .unset, .unset, .unset] [])) _
      refine XS.iloadN X2.here hx rfl (hb hby at_12) rfl ?_
      show Steps _ _ _ (T2.setTop (mkF m 13 #[vI p1, vI p2, vI p3, vI 0, .unset, .unset, .unset, .unset, .unset] [iI p2])) _
      refine XS.bipush X2.here hx rfl (hb hby at_13) ?_
      show Steps _ _ _ (T2.setTop (mkF m 15 #[vI p1, vI p2, vI p3, vI 0, .unset, .unset, .unset, .unset, .unset] [iI 31, iI p2])) _
      refine XS.iand X2.here hx rfl (hb hby at_15) rfl ?_
      show Steps _ _ _ (T2.setTop (mkF m 16 #[vI p1, vI p2, vI p3, vI 0, .unset, .unset, .unset, .unset, .unset] [iI (p2 &&& (31 : Int32))])) _
      refine XS.istore X2.here hx rfl (hb hby at_16) rfl (l' := #[vI p1, vI p2, vI p3, vI 0, vI (p2 &&& (31 : Int32)), .unset, .unset, .unset, .unset]) rfl ?_
      rw [← hnv]
      show Steps _ _ _ (T2.setTop (mkF m 18 #[vI p1, vI p2, vI p3, vI 0, vI nv, .unset, .unset, .unset, .unset] [])) _
      refine XS.aconstNull X2.here hx rfl (hb hby at_18) ?_
      show Steps _ _ _ (T2.setTop (mkF m 19 #[vI p1, vI p2, vI p3, vI 0, vI nv, .unset, .unset, .unset, .unset] [.null])) _
      refine XS.astore X2.here hx rfl (hb hby at_19) rfl rfl (l' := #[vI p1, vI p2, vI p3, vI 0, vI nv, .val .null, .unset, .unset, .unset]) rfl ?_
      show Steps _ _ _ (T2.setTop (mkF m 21 #[vI p1, vI p2, vI p3, vI 0, vI nv, .val .null, .unset, .unset, .unset] [])) _
      refine XS.iloadN X2.here hx rfl (hb hby at_21) rfl ?_
      show Steps _ _ _ (T2.setTop (mkF m 22 #[vI p1, vI p2, vI p3, vI 0, vI nv, .val .null, .unset, .unset, .unset] [iI 0])) _
      refine XS.ifYes X2.here hx rfl (pc0 := 22) (pc' := 42) rfl (hb hby at_22) rfl ((if0 _ _).trans (teq (by decide : (0 : Int32) = (0 : Int32))).1) (by decide) (by decide) ?_
      show Steps _ _ _ (T2.setTop (mkF m 42 #[vI p1, vI p2, vI p3, vI 0, vI nv, .val .null, .unset, .unset, .unset] [])) _
      refine st57 _ ?_
      show Steps _ _ _ (T57.setTop (mkF m 45 #[vI p1, vI p2, vI p3, vI 0, vI nv, .val .null, .unset, .unset, .unset] [iR b57])) _
      refine XS.dup X57.here hx rfl (hb hby at_45) rfl rfl ?_
      show Steps _ _ _ (T57.setTop (mkF m 46 #[vI p1, vI p2, vI p3, vI 0, vI nv, .val .null, .unset, .unset, .unset] [iR b57, iR b57])) _
      refine XS.bipush X57.here hx rfl (hb hby at_46) ?_
      show Steps _ _ _ (T57.setTop (mkF m 48 #[vI p1, vI p2, vI p3, vI 0, vI nv, .val .null, .unset, .unset, .unset] [iI 32, iR b57, iR b57])) _
      refine st58 _ ?_
      show Steps _ _ _ (T58.setTop (mkF m 50 #[vI p1, vI p2, vI p3, vI 0, vI nv, .val .null, .unset, .unset, .unset] [iR b58, iR b57, iR b57])) _
      refine XS.bipush X58.here hx rfl (hb hby at_50) ?_
      show Steps _ _ _ (T58.setTop (mkF m 52 #[vI p1, vI p2, vI p3, vI 0, vI nv, .val .null, .unset, .unset, .unset] [iI 65, iR b58, iR b57, iR b57])) _
      refine st59 _ ?_
      show Steps _ _ _ (T59.setTop (mkF m 54 #[vI p1, vI p2, vI p3, vI 0, vI nv, .val .null, .unset, .unset, .unset] [iR b59, iR b58, iR b57, iR b57])) _
      refine XS.aload X59.here hx rfl (hb hby at_54) rfl rfl ?_
      show Steps _ _ _ (T59.setTop (mkF m 56 #[vI p1, vI p2, vI p3, vI 0, vI nv, .val .null, .unset, .unset, .unset] [.null, iR b59, iR b58, iR b57, iR b57])) _
      refine XS.aconstNull X59.here hx rfl (hb hby at_56) ?_
      show Steps _ _ _ (T59.setTop (mkF m 57 #[vI p1, vI p2, vI p3, vI 0, vI nv, .val .null, .unset, .unset, .unset] [.null, .null, iR b59, iR b58, iR b57, iR b57])) _
      refine XS.aconstNull X59.here hx rfl (hb hby at_57) ?_
      show Steps _ _ _ (T59.setTop (mkF m 58 #[vI p1, vI p2, vI p3, vI 0, vI nv, .val .null, .unset, .unset, .unset] [.null, .null, .null, iR b59, iR b58, iR b57, iR b57])) _
      refine st61.trans ?_
      show Steps _ _ _ (T61.setTop (mkF m 61 #[vI p1, vI p2, vI p3, vI 0, vI nv, .val .null, .unset, .unset, .unset] [iR b57])) _
      refine XS.astore X61.here hx rfl (hb hby at_61) rfl rfl (l' := #[vI p1, vI p2, vI p3, vI 0, vI nv, .val .null, vR b57, .unset, .unset]) rfl ?_
      show Steps _ _ _ (T61.setTop (mkF m 63 #[vI p1, vI p2, vI p3, vI 0, vI nv, .val .null, vR b57, .unset, .unset] [])) _
      refine XS.aload X61.here hx rfl (hb hby at_63) rfl rfl ?_
      show Steps _ _ _ (T61.setTop (mkF m 65 #[vI p1, vI p2, vI p3, vI 0, vI nv, .val .null, vR b57, .unset, .unset] [iR b57])) _
      refine st68.trans ?_
      show Steps _ _ _ (T68.setTop (mkF m 68 #[vI p1, vI p2, vI p3, vI 0, vI nv, .val .null, vR b57, .unset, .unset] [iI 0])) _
      refine XS.istore X68.here hx rfl (hb hby at_68) rfl (l' := #[vI p1, vI p2, vI p3, vI 0, vI nv, .val .null, vR b57, vI 0, .unset]) rfl ?_
      show Steps _ _ _ (T68.setTop (mkF m 70 #[vI p1, vI p2, vI p3, vI 0, vI nv, .val .null, vR b57, vI 0, .unset] [])) _
      refine XS.iload X68.here hx rfl (hb hby at_70) rfl ?_
      show Steps _ _ _ (T68.setTop (mkF m 72 #[vI p1, vI p2, vI p3, vI 0, vI nv, .val .null, vR b57, vI 0, .unset] [iI 0])) _
      refine XS.iloadN X68.here hx rfl (hb hby at_72) rfl ?_
      show Steps _ _ _ (T68.setTop (mkF m 73 #[vI p1, vI p2, vI p3, vI 0, vI nv, .val .null, vR b57, vI 0, .unset] [iI 0, iI 0])) _
      refine XS.icmpYes X68.here hx rfl (pc0 := 73) (pc' := 78) rfl (hb hby at_73) rfl (teq (by decide : (0 : Int32) = (0 : Int32))).1 (by decide) (by decide) ?_
      show Steps _ _ _ (T68.setTop (mkF m 78 #[vI p1, vI p2, vI p3, vI 0, vI nv, .val .null, vR b57, vI 0, .unset] [])) _
      refine XS.iload X68.here hx rfl (hb hby at_78) rfl ?_
      show Steps _ _ _ (T68.setTop (mkF m 80 #[vI p1, vI p2, vI p3, vI 0, vI nv, .val .null, vR b57, vI 0, .unset] [iI 0])) _
      refine XS.ifNo X68.here hx rfl (hb hby at_80) rfl ((if0 _ _).trans (teq (by decide : (0 : Int32) = (0 : Int32))).2) ?_
      show Steps _ _ _ (T68.setTop (mkF m 83 #[vI p1, vI p2, vI p3, vI 0, vI nv, .val .null, vR b57, vI 0, .unset] [])) _
      refine XS.iconst X68.here hx rfl (hb hby at_83) ?_
      show Steps _ _ _ (T68.setTop (mkF m 84 #[vI p1, vI p2, vI p3, vI 0, vI nv, .val .null, vR b57, vI 0, .unset] [iI 1])) _
      exact retN X68 hx (t := .boolean) Bd.returns (by simp) (hb hby at_84) hr
    · show Q0 Z p1 p2 p3 h0 n0 _ T68.heap _
      rw [e68]
      exact ⟨rfl, N61⟩
set_option maxRecDepth 65536 in
set_option maxHeartbeats 40000000 in
theorem comes_1 {Post : Tables → Env → Array Value → State → Outcome → State → Prop} (hpost : ∀ tb e args s v u, (limb_1_1.after args s (.returned v) u = true ∧ limb_1_2.after args s (.returned v) u = true ∧ True) → FrameEnd s (.returned v) u (Jvm.fieldLocs frame_1_writes args s ++ Jvm.arrayLocs frame_1_arrays args s ++ Jvm.staticLocs frame_1_statics s) 24 384 → Post tb e args s (.returned v) u) :
    ArmFor flags0 classFile x code maxLocals ret World_1 tables_1 room_1 Calls_1 rest_1 Pre_1 Post := by
  intro l hfl _ _ p e ha hc hk s m args below hf hA hF happ hP
  obtain ⟨hcalls, hrest, hpre⟩ := hP
  obtain ⟨-, -, -, hnamed, -, -, -, hat⟩ := (Spec.applies_iff hf).mp happ
  obtain ⟨hg, hn⟩ := and_e (Cond.before_iff.mp (show (Jvm.Cond.and given_1 narrow_1).before args s = true from hpre))
  obtain ⟨gc, gr0⟩ := and_e hg
  obtain ⟨ga0, gr1⟩ := and_e gr0
  obtain ⟨ga1, gr2⟩ := and_e gr1
  obtain ⟨w0, w1, w2, rfl⟩ : ∃ w0 w1 w2 : Value, args = #[w0, w1, w2] := by
    have hs : args.size = 3 := by simpa [Cond.value, given_1] using gc
    obtain ⟨L⟩ := args
    match L, hs with
    | [w0, w1, w2], _ => exact ⟨w0, w1, w2, rfl⟩
  have hw := fun d (hd : d ∈ tables_1) => atoms_spec (ws := Jvm.Cond.code x code maxLocals ret :: tables_1) hat d (List.mem_cons_of_mem _ hd)
  have hfit : Fit s := fun {y c} hc i hi => by
    obtain ⟨ha, rfl⟩ := Array.getElem?_eq_some_iff.mp hc
    have q := List.all_eq_true.mp ((Array.all_eq_true_iff_forall_mem.mp hF) _ (Array.getElem_mem ha)) i (List.mem_range.mpr hi)
    simpa [Array.getElem?_eq_getElem hi] using q
  obtain ⟨i0, ei0⟩ := is_v ga0
  obtain rfl : w0 = (.int i0) := Option.some.inj ei0
  obtain ⟨i1, ei1⟩ := is_v ga1
  obtain rfl : w1 = (.int i1) := Option.some.inj ei1
  obtain ⟨i2, ei2⟩ := is_v gr2
  obtain rfl : w2 = (.int i2) := Option.some.inj ei2
  obtain ⟨n, o, h1, h2, h3, _, L, rfl, Qv, hq⟩ := rm0 l s _ hw tables_1 i0 i1 i2  s.heap s.heap.size (Nat.le_refl _)  p e ha hc hk s m _ below hf ((Spec.applies_iff_loose hf).mp happ).1 ⟨rfl, State.Warmed39.refl s, rfl⟩ trivial
  obtain ⟨rfl, N⟩ := Qv
  refine ⟨n, _, h1, h2, h3, hpost _ _ _ _ _ _ ⟨Cond.after_iff.mpr rfl, Cond.after_iff.mpr (eq_i res_at (Term.int_eval (1)) rfl), trivial⟩ ⟨hq.1, hq.2.1, (hq.2.2.sift fun y hy => Or.inr (N y hy)).mono (by decide) (by decide)⟩⟩
theorem main_1_1 : Claimed_1_1 := comes_1 fun _ _ _ _ _ _ h hF => ⟨h.1, hF⟩
theorem main_1_2 : Claimed_1_2 := comes_1 fun _ _ _ _ _ _ h hF => ⟨h.2.1, hF⟩
end Jvm.Pilot.@@N@@
namespace Jvm.Pilot.@@N@@
open Jvm Jvm.ClassFile Sem Op Lib Jvm.Free Jvm.Stand Jvm.Pilot.@@N@@.Jvm.D
/-! MADE BY PROGRAM (witnessworld.py) out of the Statement's table words and the real class files: 11 classes; the members and pool entries that the words name. The judged class is class 1, her method 1. -/
namespace start1
open Jvm.ClassFile
def u (s : String) : CpInfo := .utf8 (stringToUtf16 s)
/-- a pool by its gaps: so many unusable entries, then the entry; so many at the end -/
def gap : Nat → List CpInfo → List CpInfo
  | 0, r => r
  | n + 1, r => .unusable :: gap n r
def poolList (es : List (Nat × CpInfo)) (last : Nat) : List CpInfo := es.foldr (fun e r => gap e.1 (e.2 :: r)) (gap last [])
def pool (es : List (Nat × CpInfo)) (last : Nat) : Array CpInfo := ⟨poolList es last⟩
def fileOf (pool : Array CpInfo) (this : Nat) (attrs : Array Attribute := #[]) (ms : Array MethodInfo := #[]) (fl : Nat := 33) (sup : Nat := 0) (ifs : Array Nat := #[]) (fds : Array FieldInfo := #[]) : ClassFile where
  minorVersion := 0
  majorVersion := 65
  constantPool := pool
  accessFlags := fl
  thisClass := this
  superClass := sup
  interfaces := ifs
  fields := fds
  methods := ms
  attributes := attrs
def plain (name : String) (sup : Option ClassId) : Class where
  name := name
  kind := .ordinary
  loader := none
  accessFlags := 33
  super := sup
  interfaces := #[]
  cf := none
  fields := #[]
  methods := #[]
  instanceTypes := #[]
  staticTypes := #[]
  resolved := #[]
  callSites := []
  init := .initialized
  statics := none
  mirror := none

def pool0 : Array CpInfo := pool [(5, u "<init>"), (0, u "()V"), (1, .class_ 10), (1, u "java/lang/Object"), (85, u "clone"), (0, u "()Ljava/lang/Object;")] 26

def k0c0 : Code := { maxStack := 0, maxLocals := 1, code := object_method_1_code, exceptionTable := #[], attributes := #[] }
def k0m0 : Method := { name := "<init>", desc := "()V", sig := { parameters := [], returnType := none }, accessFlags := 1, code := some k0c0 }
def k0m1 : Method := { name := "clone", desc := "()Ljava/lang/Object;", sig := { parameters := [], returnType := some (.object "java/lang/Object") }, accessFlags := 260, code := none }
/-- java/lang/Object -/
def k0 : Class := { plain "java/lang/Object" none with
  accessFlags := 33
  interfaces := #[]
  cf := some (fileOf pool0 8 #[] #[{ accessFlags := 1, nameIndex := 5, descriptorIndex := 6, attributes := #[] }, { accessFlags := 260, nameIndex := 96, descriptorIndex := 97, attributes := #[] }] 33 0 #[] #[])
  fields := #[]
  methods := #[k0m0, k0m1]
  instanceTypes := #[]
  staticTypes := #[]
  resolved := Array.replicate 124 none
  statics := none }

def pool1 : Array CpInfo := pool [(2, .class_ 4), (1, u "java/lang/Object"), (0, u "<init>"), (0, u "()V"), (0, .class_ 8), (0, u "com/example/threefold/threefold/store/Device"), (0, .methodref 7 10), (0, .nameAndType 5 11), (0, u "([B[B[BLjava/lang/String;Ljava/lang/String;)V"), (0, .methodref 7 13), (0, .nameAndType 14 15), (0, u "hasMasterSecret"), (0, u "()Z"), (0, .methodref 7 17), (0, .nameAndType 18 19), (0, u "withMasterSecret"), (0, u "()Lcom/example/threefold/threefold/store/Device;"), (0, .methodref 7 21), (0, .nameAndType 22 23), (0, u "keys"), (0, u "()Lcom/example/threefold/threefold/protocol/ActivationKeys;"), (0, .methodref 25 26), (0, .class_ 27), (0, .nameAndType 28 29), (0, u "com/example/threefold/threefold/protocol/ActivationKeys"), (0, u "masterSecret"), (0, u "()[B"), (0, .class_ 31), (0, u "com/example/threefold/threefold/store/DeviceHasMasterSecretPinLaw"), (2, u "law"), (0, u "(III)Z")] 5

def k1m0 : Method := { name := "<init>", desc := "()V", sig := { parameters := [], returnType := none }, accessFlags := 1, code := none }
def k1c1 : Code := { maxStack := 7, maxLocals := 9, code := code, exceptionTable := #[], attributes := #[] }
def k1m1 : Method := { name := "law", desc := "(III)Z", sig := { parameters := [.int, .int, .int], returnType := some .boolean }, accessFlags := 9, code := some k1c1 }
/-- com/example/threefold/threefold/store/DeviceHasMasterSecretPinLaw -/
def k1 : Class := { plain "com/example/threefold/threefold/store/DeviceHasMasterSecretPinLaw" (some 0) with
  accessFlags := 49
  interfaces := #[]
  cf := some (fileOf pool1 30 #[] #[{ accessFlags := 1, nameIndex := 5, descriptorIndex := 6, attributes := #[] }, { accessFlags := 9, nameIndex := 34, descriptorIndex := 35, attributes := #[] }] 49 2 #[] #[])
  fields := #[]
  methods := #[k1m0, k1m1]
  instanceTypes := #[]
  staticTypes := #[]
  resolved := Array.replicate 41 none
  statics := none }

def pool2 : Array CpInfo := pool [(1, .methodref 2 3), (0, .class_ 4), (0, .nameAndType 5 6), (0, u "java/lang/Object"), (0, u "<init>"), (0, u "()V"), (0, .class_ 8), (0, u "java/lang/Record")] 13

def k2c0 : Code := { maxStack := 1, maxLocals := 1, code := jdk_30_method_1_code, exceptionTable := #[], attributes := #[] }
def k2m0 : Method := { name := "<init>", desc := "()V", sig := { parameters := [], returnType := none }, accessFlags := 4, code := some k2c0 }
/-- java/lang/Record -/
def k2 : Class := { plain "java/lang/Record" (some 0) with
  accessFlags := 1057
  interfaces := #[]
  cf := some (fileOf pool2 7 #[] #[{ accessFlags := 4, nameIndex := 5, descriptorIndex := 6, attributes := #[] }] 1057 2 #[] #[])
  fields := #[]
  methods := #[k2m0]
  instanceTypes := #[]
  staticTypes := #[]
  resolved := Array.replicate 22 none
  statics := none }

def pool3 : Array CpInfo := pool [(1, .methodref 2 3), (0, .class_ 4), (0, .nameAndType 5 6), (0, u "java/lang/Record"), (0, u "<init>"), (0, u "()V"), (0, .fieldref 8 9), (0, .class_ 10), (0, .nameAndType 11 12), (0, u "com/example/threefold/threefold/store/Device"), (0, u "serverPrivateKey"), (0, u "[B"), (0, .fieldref 8 14), (0, .nameAndType 15 12), (0, u "devicePublicKey"), (0, .fieldref 8 17), (0, .nameAndType 18 12), (0, u "masterSecret"), (0, .fieldref 8 20), (0, .nameAndType 21 22), (0, u "activationName"), (0, u "Ljava/lang/String;"), (0, .fieldref 8 24), (0, .nameAndType 25 22), (0, u "extras"), (0, .methodref 8 27), (0, .nameAndType 5 28), (0, u "([B[B[BLjava/lang/String;Ljava/lang/String;)V"), (2, u "withMasterSecret"), (0, u "()Lcom/example/threefold/threefold/store/Device;"), (0, .methodref 8 34), (0, .nameAndType 35 36), (0, u "hasMasterSecret"), (0, u "()Z"), (0, .methodref 8 38), (0, .nameAndType 39 40), (0, u "keys"), (0, u "()Lcom/example/threefold/threefold/protocol/ActivationKeys;"), (0, .methodref 42 43), (0, .class_ 44), (0, .nameAndType 18 45), (0, u "com/example/threefold/threefold/protocol/ActivationKeys"), (0, u "()[B"), (0, .methodref 42 47), (0, .nameAndType 48 49), (0, u "of"), (0, u "([B)Lcom/example/threefold/threefold/protocol/ActivationKeys;"), (24, u "NAME_LIMIT"), (0, u "I"), (2, u "EXTRAS_LIMIT")] 35

def k3c0 : Code := { maxStack := 2, maxLocals := 6, code := prog_39_method_1_code, exceptionTable := #[], attributes := #[] }
def k3m0 : Method := { name := "<init>", desc := "([B[B[BLjava/lang/String;Ljava/lang/String;)V", sig := { parameters := [(.array .byte), (.array .byte), (.array .byte), (.object "java/lang/String"), (.object "java/lang/String")], returnType := none }, accessFlags := 1, code := some k3c0 }
def k3c1 : Code := { maxStack := 1, maxLocals := 1, code := prog_39_method_3_code, exceptionTable := #[], attributes := #[] }
def k3m1 : Method := { name := "hasMasterSecret", desc := "()Z", sig := { parameters := [], returnType := some .boolean }, accessFlags := 1, code := some k3c1 }
def k3c2 : Code := { maxStack := 7, maxLocals := 2, code := prog_39_method_4_code, exceptionTable := #[], attributes := #[] }
def k3m2 : Method := { name := "withMasterSecret", desc := "()Lcom/example/threefold/threefold/store/Device;", sig := { parameters := [], returnType := some (.object "com/example/threefold/threefold/store/Device") }, accessFlags := 1, code := some k3c2 }
def k3c3 : Code := { maxStack := 2, maxLocals := 2, code := prog_39_method_5_code, exceptionTable := #[], attributes := #[] }
def k3m3 : Method := { name := "keys", desc := "()Lcom/example/threefold/threefold/protocol/ActivationKeys;", sig := { parameters := [], returnType := some (.object "com/example/threefold/threefold/protocol/ActivationKeys") }, accessFlags := 1, code := some k3c3 }
/-- com/example/threefold/threefold/store/Device -/
def k3 : Class := { plain "com/example/threefold/threefold/store/Device" (some 2) with
  accessFlags := 49
  interfaces := #[]
  cf := some (fileOf pool3 8 #[] #[{ accessFlags := 1, nameIndex := 5, descriptorIndex := 28, attributes := #[] }, { accessFlags := 1, nameIndex := 35, descriptorIndex := 36, attributes := #[] }, { accessFlags := 1, nameIndex := 31, descriptorIndex := 32, attributes := #[] }, { accessFlags := 1, nameIndex := 39, descriptorIndex := 40, attributes := #[] }] 49 2 #[] #[{ accessFlags := 18, nameIndex := 11, descriptorIndex := 12, attributes := #[] }, { accessFlags := 18, nameIndex := 15, descriptorIndex := 12, attributes := #[] }, { accessFlags := 18, nameIndex := 18, descriptorIndex := 12, attributes := #[] }, { accessFlags := 18, nameIndex := 21, descriptorIndex := 22, attributes := #[] }, { accessFlags := 18, nameIndex := 25, descriptorIndex := 22, attributes := #[] }, { accessFlags := 25, nameIndex := 74, descriptorIndex := 75, attributes := #[] }, { accessFlags := 25, nameIndex := 78, descriptorIndex := 75, attributes := #[] }])
  fields := #[{ name := "serverPrivateKey", type := (.array .byte), accessFlags := 18, slot := 0, constantValue := 0 }, { name := "devicePublicKey", type := (.array .byte), accessFlags := 18, slot := 1, constantValue := 0 }, { name := "masterSecret", type := (.array .byte), accessFlags := 18, slot := 2, constantValue := 0 }, { name := "activationName", type := (.object "java/lang/String"), accessFlags := 18, slot := 3, constantValue := 0 }, { name := "extras", type := (.object "java/lang/String"), accessFlags := 18, slot := 4, constantValue := 0 }, { name := "NAME_LIMIT", type := .int, accessFlags := 25, slot := 0, constantValue := 0 }, { name := "EXTRAS_LIMIT", type := .int, accessFlags := 25, slot := 1, constantValue := 0 }]
  methods := #[k3m0, k3m1, k3m2, k3m3]
  instanceTypes := #[(.array .byte), (.array .byte), (.array .byte), (.object "java/lang/String"), (.object "java/lang/String")]
  staticTypes := #[.int, .int]
  resolved := Array.replicate 114 none
  statics := none }

def pool4 : Array CpInfo := pool [(1, .methodref 2 3), (0, .class_ 4), (0, .nameAndType 5 6), (0, u "java/lang/Object"), (0, u "<init>"), (0, u "()V"), (0, .fieldref 8 9), (0, .class_ 10), (0, .nameAndType 11 12), (0, u "com/example/threefold/threefold/protocol/ActivationKeys"), (0, u "masterSecret"), (0, u "[B"), (6, .methodref 8 20), (0, .nameAndType 5 21), (0, u "([B)V"), (7, .methodref 30 31), (0, .class_ 12), (0, .nameAndType 32 33), (0, u "clone"), (0, u "()Ljava/lang/Object;"), (16, u "MASTER_SECRET_LENGTH"), (0, u "I"), (6, u "of"), (0, u "([B)Lcom/example/threefold/threefold/protocol/ActivationKeys;"), (1, u "()[B")] 4

def k4c0 : Code := { maxStack := 2, maxLocals := 2, code := prog_6_method_1_code, exceptionTable := #[], attributes := #[] }
def k4m0 : Method := { name := "<init>", desc := "([B)V", sig := { parameters := [(.array .byte)], returnType := none }, accessFlags := 2, code := some k4c0 }
def k4c1 : Code := { maxStack := 3, maxLocals := 1, code := prog_6_method_3_code, exceptionTable := #[], attributes := #[] }
def k4m1 : Method := { name := "of", desc := "([B)Lcom/example/threefold/threefold/protocol/ActivationKeys;", sig := { parameters := [(.array .byte)], returnType := some (.object "com/example/threefold/threefold/protocol/ActivationKeys") }, accessFlags := 9, code := some k4c1 }
def k4c2 : Code := { maxStack := 1, maxLocals := 1, code := prog_6_method_4_code, exceptionTable := #[], attributes := #[] }
def k4m2 : Method := { name := "masterSecret", desc := "()[B", sig := { parameters := [], returnType := some (.array .byte) }, accessFlags := 1, code := some k4c2 }
/-- com/example/threefold/threefold/protocol/ActivationKeys -/
def k4 : Class := { plain "com/example/threefold/threefold/protocol/ActivationKeys" (some 0) with
  accessFlags := 33
  interfaces := #[]
  cf := some (fileOf pool4 8 #[] #[{ accessFlags := 2, nameIndex := 5, descriptorIndex := 21, attributes := #[] }, { accessFlags := 9, nameIndex := 58, descriptorIndex := 59, attributes := #[] }, { accessFlags := 1, nameIndex := 11, descriptorIndex := 61, attributes := #[] }] 33 2 #[] #[{ accessFlags := 26, nameIndex := 50, descriptorIndex := 51, attributes := #[] }, { accessFlags := 18, nameIndex := 11, descriptorIndex := 12, attributes := #[] }])
  fields := #[{ name := "MASTER_SECRET_LENGTH", type := .int, accessFlags := 26, slot := 0, constantValue := 0 }, { name := "masterSecret", type := (.array .byte), accessFlags := 18, slot := 0, constantValue := 0 }]
  methods := #[k4m0, k4m1, k4m2]
  instanceTypes := #[(.array .byte)]
  staticTypes := #[.int]
  resolved := Array.replicate 66 none
  statics := none }

def pool5 : Array CpInfo := pool [(1, .class_ 2), (0, u "java/lang/Cloneable"), (0, .class_ 4), (0, u "java/lang/Object")] 2

/-- java/lang/Cloneable -/
def k5 : Class := { plain "java/lang/Cloneable" (some 0) with
  accessFlags := 1537
  interfaces := #[]
  cf := some (fileOf pool5 1 #[] #[] 1537 3 #[] #[])
  fields := #[]
  methods := #[]
  instanceTypes := #[]
  staticTypes := #[]
  resolved := Array.replicate 7 none
  statics := none }

def pool6 : Array CpInfo := pool [(1, u "java/io/Serializable"), (0, .class_ 1), (0, u "java/lang/Object"), (0, .class_ 3)] 3

/-- java/io/Serializable -/
def k6 : Class := { plain "java/io/Serializable" (some 0) with
  accessFlags := 1537
  interfaces := #[]
  cf := some (fileOf pool6 2 #[] #[] 1537 4 #[] #[])
  fields := #[]
  methods := #[]
  instanceTypes := #[]
  staticTypes := #[]
  resolved := Array.replicate 8 none
  statics := none }

/-- the primitive byte -/
def k7 : Class := { plain "byte" none with kind := .primitive 'B', accessFlags := 0x411 }
/-- [B -/
def k8 : Class := { plain "[B" (some 0) with kind := .array 7 .byte, interfaces := #[5, 6], accessFlags := 1041 }

/-- the primitive int -/
def k9 : Class := { plain "int" none with kind := .primitive 'I', accessFlags := 0x411 }
/-- [I -/
def k10 : Class := { plain "[I" (some 0) with kind := .array 9 .int, interfaces := #[5, 6], accessFlags := 1041 }

def heap : Heap := #[]
def classes : Array Class := #[k0, k1, k2, k3, k4, k5, k6, k7, k8, k9, k10]
def interned : List (Array UInt16 × Addr) := []
def slotsUsed : Nat := 0
def theMethod : MethodId := ⟨1, 1⟩
def args0 : Array Value := #[.int 5, .int 3, .int 3]
def aboutOver (below : List Frame) : State where
  vm := { classes := classes, interned := interned.toArray }
  heap := heap
  slotsUsed := slotsUsed
  threads := #[{ frames := .invoking theMethod args0 :: below }]
def below0 : List Frame := [.native { method := ⟨0, 0⟩, args := #[] }]
def about1 : State := aboutOver below0
def p0 : Program := .bare "" "" ""
def e0 : Env := launch0.env 0 0 0
theorem w_frames : about1.frames = Frame.invoking theMethod args0 :: below0 := rfl
set_option maxRecDepth 65536 in
theorem w_args : argsFit about1.vm theMethod args0 = true := by decide +kernel
set_option maxRecDepth 65536 in
theorem w_heap : heapFits about1 = true := by decide +kernel
set_option maxRecDepth 65536 in
theorem w_runnable : about1.curStatus? = some .runnable := by decide +kernel
set_option maxRecDepth 65536 in
theorem w_alone : about1.alone = true := by decide +kernel
set_option maxRecDepth 65536 in
theorem w_named : about1.methodNamed? x = some theMethod := by decide +kernel
set_option maxRecDepth 65536 in
theorem w_hears : about1.hears theMethod below0 = true := by decide +kernel
set_option maxRecDepth 65536 in
theorem w_ripe : about1.ripe theMethod args0 below0 = true := by decide +kernel
theorem w_running : about1.status = .running := rfl
set_option maxRecDepth 65536 in
theorem w_room : about1.hasRoom e0.platform room_1 = true :=
  launch0.hasRoom_least _ room_1 (by decide +kernel) (by decide +kernel) (by decide +kernel) (by decide +kernel) (by decide +kernel) (by decide +kernel)
theorem allAtoms_all (ts : List Jvm.Cond) (a : Array Jvm.Value) (st : Jvm.State) : (allAtoms ts).before a st = ts.all (fun c => c.before a st) := by
  induction ts with
  | nil => rfl
  | cons c t ih =>
    show (Jvm.Cond.and c (allAtoms t)).before a st = _
    rw [Jvm.Cond.before_and, ih, List.all_cons]
def words1 : List Jvm.Cond := Jvm.Cond.code x code maxLocals ret :: tables_1
/-- a 'code' word, met by the world's own term for the bytes: nothing is compared byte by byte -/
theorem code_word {y : MethodName} {bytes : ByteArray} {mx : Nat} {rt : Option FieldType} {a : Array Value} {s : State} {m : MethodId} {meth : Method} {c : Code} (h1 : s.methodNamed? y = some m) (h2 : s.vm.method? m = some meth) (h3 : meth.code = some c) (h4 : c.code = bytes)
    (h5 : (c.maxLocals == mx && c.exceptionTable.isEmpty && decide (c.maxStack ≤ mostOperands) && decide (meth.sig.returnType = rt) && !meth.locks && decide (parseMethodDescriptor y.desc = some meth.sig)) = true) : (Jvm.Cond.code y bytes mx rt).before a s = true := by
  simp only [Bool.and_eq_true, beq_iff_eq, Bool.not_eq_true', decide_eq_true_eq] at h5
  obtain ⟨⟨⟨⟨⟨g1, g2⟩, g3⟩, g4⟩, g5⟩, g6⟩ := h5
  simp [Cond.before, Cond.holds, Cond.value, h1, h2, h3, h4, g1, g2, g3, g4, g5, g6]
def isCode : Jvm.Cond → Bool
  | .code _ _ _ _ => true
  | _ => false
theorem all_split {L : List Jvm.Cond} {P : Jvm.Cond → Bool} (h1 : L.all (fun c => isCode c || P c) = true) (h2 : ∀ c ∈ L.filter isCode, P c = true) : L.all P = true := by
  refine List.all_eq_true.mpr fun c hc => ?_
  have h := List.all_eq_true.mp h1 c hc
  rcases Bool.eq_false_or_eq_true (isCode c) with hi | hi
  · exact h2 c (List.mem_filter.mpr ⟨hc, hi⟩)
  · simpa [hi] using h
set_option maxRecDepth 65536 in
theorem w_c0 : (Jvm.Cond.code x code maxLocals ret).before args0 about1 = true := code_word (m := ⟨1, 1⟩) (meth := k1m1) (c := k1c1) (by decide +kernel) rfl rfl rfl (by decide +kernel)
set_option maxRecDepth 65536 in
theorem w_c1 : (Jvm.Cond.code ({ cls := "com/example/threefold/threefold/store/Device", name := "<init>", desc := "([B[B[BLjava/lang/String;Ljava/lang/String;)V" } : Jvm.MethodName) prog_39_method_1_code (6 : Nat) (Option.none : Option Jvm.ClassFile.FieldType)).before args0 about1 = true := code_word (m := ⟨3, 0⟩) (meth := k3m0) (c := k3c0) (by decide +kernel) rfl rfl rfl (by decide +kernel)
set_option maxRecDepth 65536 in
theorem w_c2 : (Jvm.Cond.code ({ cls := "java/lang/Record", name := "<init>", desc := "()V" } : Jvm.MethodName) jdk_30_method_1_code (1 : Nat) (Option.none : Option Jvm.ClassFile.FieldType)).before args0 about1 = true := code_word (m := ⟨2, 0⟩) (meth := k2m0) (c := k2c0) (by decide +kernel) rfl rfl rfl (by decide +kernel)
set_option maxRecDepth 65536 in
theorem w_c3 : (Jvm.Cond.code ({ cls := "java/lang/Object", name := "<init>", desc := "()V" } : Jvm.MethodName) object_method_1_code (1 : Nat) (Option.none : Option Jvm.ClassFile.FieldType)).before args0 about1 = true := code_word (m := ⟨0, 0⟩) (meth := k0m0) (c := k0c0) (by decide +kernel) rfl rfl rfl (by decide +kernel)
set_option maxRecDepth 65536 in
theorem w_c4 : (Jvm.Cond.code ({ cls := "com/example/threefold/threefold/store/Device", name := "hasMasterSecret", desc := "()Z" } : Jvm.MethodName) prog_39_method_3_code (1 : Nat) (Option.some Jvm.ClassFile.FieldType.boolean)).before args0 about1 = true := code_word (m := ⟨3, 1⟩) (meth := k3m1) (c := k3c1) (by decide +kernel) rfl rfl rfl (by decide +kernel)
set_option maxRecDepth 65536 in
theorem w_c5 : (Jvm.Cond.code ({ cls := "com/example/threefold/threefold/store/Device", name := "withMasterSecret", desc := "()Lcom/example/threefold/threefold/store/Device;" } : Jvm.MethodName) prog_39_method_4_code (2 : Nat) (Option.some (Jvm.ClassFile.FieldType.object "com/example/threefold/threefold/store/Device"))).before args0 about1 = true := code_word (m := ⟨3, 2⟩) (meth := k3m2) (c := k3c2) (by decide +kernel) rfl rfl rfl (by decide +kernel)
set_option maxRecDepth 65536 in
theorem w_c6 : (Jvm.Cond.code ({ cls := "com/example/threefold/threefold/store/Device", name := "keys", desc := "()Lcom/example/threefold/threefold/protocol/ActivationKeys;" } : Jvm.MethodName) prog_39_method_5_code (2 : Nat) (Option.some (Jvm.ClassFile.FieldType.object "com/example/threefold/threefold/protocol/ActivationKeys"))).before args0 about1 = true := code_word (m := ⟨3, 3⟩) (meth := k3m3) (c := k3c3) (by decide +kernel) rfl rfl rfl (by decide +kernel)
set_option maxRecDepth 65536 in
theorem w_c7 : (Jvm.Cond.code ({ cls := "com/example/threefold/threefold/protocol/ActivationKeys", name := "of", desc := "([B)Lcom/example/threefold/threefold/protocol/ActivationKeys;" } : Jvm.MethodName) prog_6_method_3_code (1 : Nat) (Option.some (Jvm.ClassFile.FieldType.object "com/example/threefold/threefold/protocol/ActivationKeys"))).before args0 about1 = true := code_word (m := ⟨4, 1⟩) (meth := k4m1) (c := k4c1) (by decide +kernel) rfl rfl rfl (by decide +kernel)
set_option maxRecDepth 65536 in
theorem w_c8 : (Jvm.Cond.code ({ cls := "com/example/threefold/threefold/protocol/ActivationKeys", name := "<init>", desc := "([B)V" } : Jvm.MethodName) prog_6_method_1_code (2 : Nat) (Option.none : Option Jvm.ClassFile.FieldType)).before args0 about1 = true := code_word (m := ⟨4, 0⟩) (meth := k4m0) (c := k4c0) (by decide +kernel) rfl rfl rfl (by decide +kernel)
set_option maxRecDepth 65536 in
theorem w_c9 : (Jvm.Cond.code ({ cls := "com/example/threefold/threefold/protocol/ActivationKeys", name := "masterSecret", desc := "()[B" } : Jvm.MethodName) prog_6_method_4_code (1 : Nat) (Option.some (Jvm.ClassFile.FieldType.array Jvm.ClassFile.FieldType.byte))).before args0 about1 = true := code_word (m := ⟨4, 2⟩) (meth := k4m2) (c := k4c2) (by decide +kernel) rfl rfl rfl (by decide +kernel)
def codes1 : List Jvm.Cond := [Jvm.Cond.code x code maxLocals ret, Jvm.Cond.code ({ cls := "com/example/threefold/threefold/store/Device", name := "<init>", desc := "([B[B[BLjava/lang/String;Ljava/lang/String;)V" } : Jvm.MethodName) prog_39_method_1_code (6 : Nat) (Option.none : Option Jvm.ClassFile.FieldType), Jvm.Cond.code ({ cls := "java/lang/Record", name := "<init>", desc := "()V" } : Jvm.MethodName) jdk_30_method_1_code (1 : Nat) (Option.none : Option Jvm.ClassFile.FieldType), Jvm.Cond.code ({ cls := "java/lang/Object", name := "<init>", desc := "()V" } : Jvm.MethodName) object_method_1_code (1 : Nat) (Option.none : Option Jvm.ClassFile.FieldType), Jvm.Cond.code ({ cls := "com/example/threefold/threefold/store/Device", name := "hasMasterSecret", desc := "()Z" } : Jvm.MethodName) prog_39_method_3_code (1 : Nat) (Option.some Jvm.ClassFile.FieldType.boolean), Jvm.Cond.code ({ cls := "com/example/threefold/threefold/store/Device", name := "withMasterSecret", desc := "()Lcom/example/threefold/threefold/store/Device;" } : Jvm.MethodName) prog_39_method_4_code (2 : Nat) (Option.some (Jvm.ClassFile.FieldType.object "com/example/threefold/threefold/store/Device")), Jvm.Cond.code ({ cls := "com/example/threefold/threefold/store/Device", name := "keys", desc := "()Lcom/example/threefold/threefold/protocol/ActivationKeys;" } : Jvm.MethodName) prog_39_method_5_code (2 : Nat) (Option.some (Jvm.ClassFile.FieldType.object "com/example/threefold/threefold/protocol/ActivationKeys")), Jvm.Cond.code ({ cls := "com/example/threefold/threefold/protocol/ActivationKeys", name := "of", desc := "([B)Lcom/example/threefold/threefold/protocol/ActivationKeys;" } : Jvm.MethodName) prog_6_method_3_code (1 : Nat) (Option.some (Jvm.ClassFile.FieldType.object "com/example/threefold/threefold/protocol/ActivationKeys")), Jvm.Cond.code ({ cls := "com/example/threefold/threefold/protocol/ActivationKeys", name := "<init>", desc := "([B)V" } : Jvm.MethodName) prog_6_method_1_code (2 : Nat) (Option.none : Option Jvm.ClassFile.FieldType), Jvm.Cond.code ({ cls := "com/example/threefold/threefold/protocol/ActivationKeys", name := "masterSecret", desc := "()[B" } : Jvm.MethodName) prog_6_method_4_code (1 : Nat) (Option.some (Jvm.ClassFile.FieldType.array Jvm.ClassFile.FieldType.byte))]
set_option maxRecDepth 65536 in
theorem codes_eq : words1.filter isCode = codes1 := rfl
theorem w_codes : ∀ c ∈ words1.filter isCode, c.before args0 about1 = true := by
  rw [codes_eq]
  intro c hc
  simp only [codes1, List.mem_cons, List.not_mem_nil, or_false] at hc
  rcases hc with rfl | rfl | rfl | rfl | rfl | rfl | rfl | rfl | rfl | rfl
  · exact w_c0
  · exact w_c1
  · exact w_c2
  · exact w_c3
  · exact w_c4
  · exact w_c5
  · exact w_c6
  · exact w_c7
  · exact w_c8
  · exact w_c9
set_option maxRecDepth 65536 in
theorem w_t1 : (words1.take 24).all (fun c => isCode c || c.before args0 about1) = true := by decide +kernel
set_option maxRecDepth 65536 in
theorem w_t2 : ((words1.drop 24).take 24).all (fun c => isCode c || c.before args0 about1) = true := by decide +kernel
set_option maxRecDepth 65536 in
theorem w_t3 : ((words1.drop 24).drop 24).all (fun c => isCode c || c.before args0 about1) = true := by decide +kernel
theorem w_tables : (allAtoms (Jvm.Cond.code x code maxLocals ret :: tables_1)).before args0 about1 = true := by
  rw [allAtoms_all]
  show words1.all (fun c => c.before args0 about1) = true
  refine all_split ?_ w_codes
  rw [← List.take_append_drop 24 words1, List.all_append, w_t1, ← List.take_append_drop 24 (words1.drop 24), List.all_append, w_t2, w_t3]
  rfl
set_option maxRecDepth 65536 in
theorem w_case : (Jvm.Cond.and given_1 narrow_1).before args0 about1 = true := by decide +kernel
theorem w_applies : (headSpec (Jvm.Cond.code x code maxLocals ret :: tables_1) room_1).applies x e0.platform about1 = true :=
  (Spec.applies_iff w_frames).mpr ⟨w_running, w_runnable, w_alone, w_named, w_hears, w_ripe, w_room, w_tables⟩
theorem atStart : AtStart classFile x code maxLocals ret World_1 tables_1 room_1 Calls_1 rest_1 Pre_1 launch0 p0 e0 about1 theMethod args0 below0 :=
  ⟨lists_1, trivial, launch0.admits_env _ _ _, launch0.least_env, fairChoices_fair.cas, fairChoices_fair.clock, w_frames, w_args, w_heap, w_applies, trivial, trivial, w_case⟩
end start1
theorem witness_1 : WitnessClaimed_1 := ⟨start1.p0, start1.e0, start1.about1, start1.theMethod, start1.args0, start1.below0, start1.atStart⟩
end Jvm.Pilot.@@N@@
